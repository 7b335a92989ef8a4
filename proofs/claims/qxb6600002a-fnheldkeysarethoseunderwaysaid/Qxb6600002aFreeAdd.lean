/-
  runFree: the branch that counts a pending transaction.
-/
import Derived.Test.Qxb6600002aFreeTake
namespace Go.Proofs.Qxb6600002a
set_option linter.unusedSimpArgs false
set_option linter.unusedVariables false
open Go.MapKept Go.ChangeMaps Go.RowKit

theorem ex_shrOne {P : Program} {n : Nat} {f : Nat → Value} {w : World} {ty : TypeId} {pos : String} {aft : Array Edge} {d : Option Tmp} {g : Option (Nat × Bool)} {x y : Operand} {t t' : TypeId} {i : Nat} (hx : ev n f x = .int .u16 (i : Nat)) (hy : ev n f y = .int .u64 1) :
    (execOp (ev n f) ⟨d, .binOp .shr t x y t', ty, pos, aft, g⟩).run P w = .ok (.value (.int .u16 ((i / 2 : Nat) : Int))) w := by
  rw [ex_shr hx hy (by decide)]
  have e1 : (2 : Int) ^ (min (Int.toNat 1) IntKind.u16.bits) = 2 := by decide
  have e2 : (i : Int).fdiv 2 = ((i / 2 : Nat) : Int) := by
    rw [Int.fdiv_eq_ediv_of_nonneg _ (by decide)]
    omega
  rw [e1, e2]

theorem setPerm : ∀ (l : List Nat) (idx i z : Nat), l[idx]? = some i → (z :: l).Perm (i :: l.set idx z)
  | [], idx, i, z, h => by simp at h
  | x :: t, 0, i, z, h => by
    simp at h
    subst h
    exact List.Perm.swap _ _ _
  | x :: t, idx + 1, i, z, h => by
    have h' : t[idx]? = some i := by simpa using h
    exact (List.Perm.swap _ _ _).trans (((setPerm t idx i z h').cons x).trans (List.Perm.swap _ _ _))

theorem swapped {l : List Nat} {idx i z : Nat} (h : l[idx]? = some i) (hz : l[l.length - 1]? = some z) : ∃ l', l'.length = l.length - 1 ∧ l.Perm (i :: l') ∧ ∀ j v, l'[j]? = some v → if j = idx then v = z else l[j]? = some v := by
  have hidx := (List.getElem?_eq_some_iff.1 h).1
  have hne : l ≠ [] := fun e => by subst e; simp at h
  have hl : l = l.dropLast ++ [z] := by
    have h1 := List.dropLast_concat_getLast hne
    have h2 : l.getLast hne = z := by
      have h3 := List.getLast?_eq_getElem? (l := l)
      rw [hz, List.getLast?_eq_some_getLast hne] at h3
      exact Option.some.inj h3
    rw [h2] at h1
    exact h1.symm
  generalize hd : l.dropLast = d at hl
  clear hd hne
  subst hl
  have hp : (d ++ [z]).Perm (z :: d) := List.perm_append_singleton z d
  by_cases e : idx < d.length
  · rw [List.getElem?_append_left e] at h
    refine ⟨d.set idx z, by simp, hp.trans (setPerm d idx i z h), fun j v hv => ?_⟩
    have hj := (List.getElem?_eq_some_iff.1 hv).1
    simp at hj
    rw [List.getElem?_set] at hv
    by_cases e2 : j = idx
    · subst e2
      simp [hj] at hv
      simp [hv]
    · rw [if_neg (fun h => e2 h.symm)] at hv
      simp only [if_neg e2]
      rw [List.getElem?_append_left hj]
      exact hv
  · have e1 : idx = d.length := by simp at hidx; omega
    subst e1
    simp at h
    subst h
    refine ⟨d, by simp, hp, fun j v hv => ?_⟩
    have hj := (List.getElem?_eq_some_iff.1 hv).1
    rw [if_neg (by omega), List.getElem?_append_left hj]
    exact hv

set_option maxHeartbeats 8000000 in
theorem add25b (c : FC) (hc : c.ok) (s : FSt) (p o idx i : Nat) (f : Nat → Value) (w : World) (Q : Exit → Act → World → Prop) (hf : FF c s.nxt s.pend.length p o f) (f24 : f 24 = .int .i64 (idx : Nat)) (f25 : f 25 = .int .i64 (i : Nat)) (hi : s.pend[idx]? = some i) (hw : FW c s w)
    (hnorm : ∀ f' w' s', s'.nxt = s.nxt → FF c s'.nxt s'.pend.length p o f' → FW c s' w' → Q .normal (Fr 228 f') w') :
    Code.wp Try.prog (part_ (Try.f25.body.getD .skip) [1, 1, 1, 1, 1, 1, 1, 1, 0, 1, 2, 3, 1, 0, 2, 1, 0, 1, 5, 1, 1, 1, 1]) Q (Fr 228 f) w := by
  have lenT := hc.lenT
  have hle := hw.le
  have hsz := hw.size
  have hpl := hw.inv.pln
  have hmem : i ∈ s.pend := List.mem_of_getElem? hi
  have hin : i < s.nxt := hw.inv.plt i hmem
  have hilt : i < c.tx.length := by omega
  have hidx := (List.getElem?_eq_some_iff.1 hi).1
  have hM := hc.t256 i
  obtain ⟨z, hz⟩ : ∃ z, s.pend[s.pend.length - 1]? = some z := ⟨_, List.getElem?_eq_getElem (by omega)⟩
  obtain ⟨l', hl', hperm, hget⟩ := swapped hi hz
  obtain ⟨g, rfl⟩ : ∃ g, f = upd (upd (ffr c s.nxt s.pend.length p o g) 24 (.int .i64 (idx : Nat))) 25 (.int .i64 (i : Nat)) := ⟨f, by rw [← hf.open, ← upd_id f24, ← upd_id f25]⟩
  clear hf f24 f25
  have hmi := hw.maps i hin
  have cW : w.cell? ⟨c.N + 2, i, none⟩ = some (.map (some (s.wbk i))) := by
    rw [hw.ws.cell hilt, if_pos hin]
  refine sq_region ?_
  (repeat (first | ((with_reducible apply w_mv); first | exact (rfl : _ = Value.int _ _) | exact (rfl : _ = Value.bool _) | exact (rfl : _ = Value.slice _ _ _) | exact (rfl : _ = Value.map _) | exact (rfl : _ = Value.pointer _) | exact (rfl : _ = Value.string _) | exact (rfl : _ = Value.tuple _) | exact rfl) | ((with_reducible apply w_as); first | exact (rfl : _ = Value.int _ _) | exact (rfl : _ = Value.bool _) | exact (rfl : _ = Value.slice _ _ _) | exact (rfl : _ = Value.map _) | exact (rfl : _ = Value.pointer _) | exact (rfl : _ = Value.string _) | exact (rfl : _ = Value.tuple _) | exact rfl) | ((with_reducible apply w_ext); exact rfl; exact rfl) | ((with_reducible apply w_not); exact rfl) | ((with_reducible apply w_nc); exact rfl) | ((with_reducible apply w_lss); exact rfl; exact rfl) | ((with_reducible apply w_gtr); exact rfl; exact rfl) | ((with_reducible apply w_geq); exact rfl; exact rfl) | ((with_reducible apply w_eql); exact rfl; exact rfl) | ((with_reducible apply w_neq); exact rfl; exact rfl) | ((with_reducible apply w_seql); exact rfl; exact rfl) | ((with_reducible apply w_sneq); exact rfl; exact rfl) | ((with_reducible apply w_beql (ht := Try.underlying4)); exact rfl; exact rfl) | ((with_reducible apply w_bneq (ht := Try.underlying4)); exact rfl; exact rfl) | ((with_reducible apply w_lens (ht := Try.underlying22)); exact rfl) | ((with_reducible apply w_lens (ht := Try.underlying23)); exact rfl) | ((with_reducible apply w_lens (ht := Try.underlying39)); exact rfl) | ((with_reducible apply w_lens (ht := Try.underlying40)); exact rfl) | ((with_reducible apply w_lens (ht := Try.underlying47)); exact rfl) | ((with_reducible apply w_lens (ht := Try.underlying48)); exact rfl) | ((with_reducible apply w_lenstr (ht := Try.underlying9)); exact rfl)))
  refine wl_val (ex_index0 Try.underlying47 size28 rfl rfl rfl hilt) ?_
  refine wl_val (ex_load (v := .map _) Try.underlying28 rfl rfl cW) ?_
  refine w_call2 ok16 ((add_any (c.N + 1) c.N (s.wbk i) s.m (s.wl i) w hw.app hmi.1 (by omega) (hw.inv.small (by omega))).mono ?_) rfl rfl
  rintro e w3 ⟨m', rfl, app3, kp3, e3⟩
  refine ⟨_, rfl, ?_⟩
  (refine sq_nil ?_)
  have hinv3 := (hw.inv.perm hperm).add e3
  have k3 : ∀ j, j < w.heap.size → j ≠ c.N → w3.heap[j]? = w.heap[j]? := fun j hj h0 => kp3.block j hj (by simpa using h0)
  have sz3 := kp3.size
  have kpN3 : Kp c.N [] c.wN w3 := hw.kp.trans (kp3.mono (by omega) (fun k hk hm => by simp at hm; omega))
  refine wp_seq (sq_region ?_)
  (repeat (first | ((with_reducible apply w_mv); first | exact (rfl : _ = Value.int _ _) | exact (rfl : _ = Value.bool _) | exact (rfl : _ = Value.slice _ _ _) | exact (rfl : _ = Value.map _) | exact (rfl : _ = Value.pointer _) | exact (rfl : _ = Value.string _) | exact (rfl : _ = Value.tuple _) | exact rfl) | ((with_reducible apply w_as); first | exact (rfl : _ = Value.int _ _) | exact (rfl : _ = Value.bool _) | exact (rfl : _ = Value.slice _ _ _) | exact (rfl : _ = Value.map _) | exact (rfl : _ = Value.pointer _) | exact (rfl : _ = Value.string _) | exact (rfl : _ = Value.tuple _) | exact rfl) | ((with_reducible apply w_ext); exact rfl; exact rfl) | ((with_reducible apply w_not); exact rfl) | ((with_reducible apply w_nc); exact rfl) | ((with_reducible apply w_lss); exact rfl; exact rfl) | ((with_reducible apply w_gtr); exact rfl; exact rfl) | ((with_reducible apply w_geq); exact rfl; exact rfl) | ((with_reducible apply w_eql); exact rfl; exact rfl) | ((with_reducible apply w_neq); exact rfl; exact rfl) | ((with_reducible apply w_seql); exact rfl; exact rfl) | ((with_reducible apply w_sneq); exact rfl; exact rfl) | ((with_reducible apply w_beql (ht := Try.underlying4)); exact rfl; exact rfl) | ((with_reducible apply w_bneq (ht := Try.underlying4)); exact rfl; exact rfl) | ((with_reducible apply w_lens (ht := Try.underlying22)); exact rfl) | ((with_reducible apply w_lens (ht := Try.underlying23)); exact rfl) | ((with_reducible apply w_lens (ht := Try.underlying39)); exact rfl) | ((with_reducible apply w_lens (ht := Try.underlying40)); exact rfl) | ((with_reducible apply w_lens (ht := Try.underlying47)); exact rfl) | ((with_reducible apply w_lens (ht := Try.underlying48)); exact rfl) | ((with_reducible apply w_lenstr (ht := Try.underlying9)); exact rfl)))
  (refine sq_nil ?_)
  refine for8 (fun k f w4 => FF c s.nxt s.pend.length p o f ∧ f 24 = .int .i64 (idx : Nat) ∧ f 25 = .int .i64 (i : Nat) ∧ Kp w3.heap.size [c.N + 4] w3 w4 ∧ w4.heap.size = w3.heap.size ∧
      Arr w4 (c.N + 4) 8 50 (fun q => .int .i64 ((if q < k ∧ (c.T i).testBit q = true then pcnt c.T s.pend q - 1 else pcnt c.T s.pend q : Nat) : Int))) rfl (by decide) rfl
    ⟨⟨rfl, rfl, rfl, rfl, rfl, rfl, rfl, rfl, rfl, rfl, rfl, rfl⟩, rfl, rfl, Kp.refl _ _ _, rfl, (hw.pca.of_block (k3 _ (by omega) (by omega))).congr (fun q _ => by simp)⟩ ?_ ?_ ?_
  · rintro k f f' w1 ha ⟨h1, h2, h3, rest⟩
    exact ⟨h1.agr ha rfl, (ha 24 rfl).trans h2, (ha 25 rfl).trans h3, rest⟩
  · rintro k f w4 R hk8 fk ⟨hf1, f24, f25, kp4, sz4, hp4⟩ hR hret
    obtain ⟨g, rfl⟩ : ∃ g, f = upd (upd (upd (ffr c s.nxt s.pend.length p o g) 24 (.int .i64 (idx : Nat))) 25 (.int .i64 (i : Nat))) 31 (.int .i64 (k : Int)) := ⟨f, by rw [← hf1.open, ← upd_id f24, ← upd_id f25, ← upd_id fk]⟩
    clear hf1 f24 f25 fk
    have kpN4 : Kp c.N [] c.wN w4 := kpN3.trans (kp4.mono (by omega) (fun k hk hm => by simp at hm; omega))
    obtain ⟨x, hx, hcell⟩ := hc.cellT kpN4 hilt
    have hpc := pcnt_le c.T s.pend k
    refine sq_region ?_
    (repeat (first | ((with_reducible apply w_mv); first | exact (rfl : _ = Value.int _ _) | exact (rfl : _ = Value.bool _) | exact (rfl : _ = Value.slice _ _ _) | exact (rfl : _ = Value.map _) | exact (rfl : _ = Value.pointer _) | exact (rfl : _ = Value.string _) | exact (rfl : _ = Value.tuple _) | exact rfl) | ((with_reducible apply w_as); first | exact (rfl : _ = Value.int _ _) | exact (rfl : _ = Value.bool _) | exact (rfl : _ = Value.slice _ _ _) | exact (rfl : _ = Value.map _) | exact (rfl : _ = Value.pointer _) | exact (rfl : _ = Value.string _) | exact (rfl : _ = Value.tuple _) | exact rfl) | ((with_reducible apply w_ext); exact rfl; exact rfl) | ((with_reducible apply w_not); exact rfl) | ((with_reducible apply w_nc); exact rfl) | ((with_reducible apply w_lss); exact rfl; exact rfl) | ((with_reducible apply w_gtr); exact rfl; exact rfl) | ((with_reducible apply w_geq); exact rfl; exact rfl) | ((with_reducible apply w_eql); exact rfl; exact rfl) | ((with_reducible apply w_neq); exact rfl; exact rfl) | ((with_reducible apply w_seql); exact rfl; exact rfl) | ((with_reducible apply w_sneq); exact rfl; exact rfl) | ((with_reducible apply w_beql (ht := Try.underlying4)); exact rfl; exact rfl) | ((with_reducible apply w_bneq (ht := Try.underlying4)); exact rfl; exact rfl) | ((with_reducible apply w_lens (ht := Try.underlying22)); exact rfl) | ((with_reducible apply w_lens (ht := Try.underlying23)); exact rfl) | ((with_reducible apply w_lens (ht := Try.underlying39)); exact rfl) | ((with_reducible apply w_lens (ht := Try.underlying40)); exact rfl) | ((with_reducible apply w_lens (ht := Try.underlying47)); exact rfl) | ((with_reducible apply w_lens (ht := Try.underlying48)); exact rfl) | ((with_reducible apply w_lenstr (ht := Try.underlying9)); exact rfl)))
    refine wl_val (ex_index (ad := x) Try.underlying39 size5 (by rw [← hx]; rfl) rfl rfl hilt) ?_
    refine wl_val (ex_load (v := .int .u8 _) Try.underlying5 rfl rfl hcell) ?_
    (repeat (first | ((with_reducible apply w_mv); first | exact (rfl : _ = Value.int _ _) | exact (rfl : _ = Value.bool _) | exact (rfl : _ = Value.slice _ _ _) | exact (rfl : _ = Value.map _) | exact (rfl : _ = Value.pointer _) | exact (rfl : _ = Value.string _) | exact (rfl : _ = Value.tuple _) | exact rfl) | ((with_reducible apply w_as); first | exact (rfl : _ = Value.int _ _) | exact (rfl : _ = Value.bool _) | exact (rfl : _ = Value.slice _ _ _) | exact (rfl : _ = Value.map _) | exact (rfl : _ = Value.pointer _) | exact (rfl : _ = Value.string _) | exact (rfl : _ = Value.tuple _) | exact rfl) | ((with_reducible apply w_ext); exact rfl; exact rfl) | ((with_reducible apply w_not); exact rfl) | ((with_reducible apply w_nc); exact rfl) | ((with_reducible apply w_lss); exact rfl; exact rfl) | ((with_reducible apply w_gtr); exact rfl; exact rfl) | ((with_reducible apply w_geq); exact rfl; exact rfl) | ((with_reducible apply w_eql); exact rfl; exact rfl) | ((with_reducible apply w_neq); exact rfl; exact rfl) | ((with_reducible apply w_seql); exact rfl; exact rfl) | ((with_reducible apply w_sneq); exact rfl; exact rfl) | ((with_reducible apply w_beql (ht := Try.underlying4)); exact rfl; exact rfl) | ((with_reducible apply w_bneq (ht := Try.underlying4)); exact rfl; exact rfl) | ((with_reducible apply w_lens (ht := Try.underlying22)); exact rfl) | ((with_reducible apply w_lens (ht := Try.underlying23)); exact rfl) | ((with_reducible apply w_lens (ht := Try.underlying39)); exact rfl) | ((with_reducible apply w_lens (ht := Try.underlying40)); exact rfl) | ((with_reducible apply w_lens (ht := Try.underlying47)); exact rfl) | ((with_reducible apply w_lens (ht := Try.underlying48)); exact rfl) | ((with_reducible apply w_lenstr (ht := Try.underlying9)); exact rfl)))
    refine w_call2 ok20 ((hasKey_any (c.T i) k hM hk8 w4).mono ?_) rfl rfl
    rintro e w' ⟨rfl, hw'⟩
    have hw' := hw'.symm
    subst hw'
    refine ⟨_, rfl, ?_⟩
    (refine sq_nil ?_)
    refine cond_s rfl (fun hp => ?_) (fun hp => ?_)
    · have hpos := pcnt_pos hmem hp
      have cP : w4.cell? ⟨c.N + 4, k, none⟩ = some (.int .i64 (pcnt c.T s.pend k : Nat)) := by
        rw [hp4.cell hk8, if_neg (by omega)]
      refine wp_region_lit ?_
      (repeat (first | ((with_reducible apply w_mv); first | exact (rfl : _ = Value.int _ _) | exact (rfl : _ = Value.bool _) | exact (rfl : _ = Value.slice _ _ _) | exact (rfl : _ = Value.map _) | exact (rfl : _ = Value.pointer _) | exact (rfl : _ = Value.string _) | exact (rfl : _ = Value.tuple _) | exact rfl) | ((with_reducible apply w_as); first | exact (rfl : _ = Value.int _ _) | exact (rfl : _ = Value.bool _) | exact (rfl : _ = Value.slice _ _ _) | exact (rfl : _ = Value.map _) | exact (rfl : _ = Value.pointer _) | exact (rfl : _ = Value.string _) | exact (rfl : _ = Value.tuple _) | exact rfl) | ((with_reducible apply w_ext); exact rfl; exact rfl) | ((with_reducible apply w_not); exact rfl) | ((with_reducible apply w_nc); exact rfl) | ((with_reducible apply w_lss); exact rfl; exact rfl) | ((with_reducible apply w_gtr); exact rfl; exact rfl) | ((with_reducible apply w_geq); exact rfl; exact rfl) | ((with_reducible apply w_eql); exact rfl; exact rfl) | ((with_reducible apply w_neq); exact rfl; exact rfl) | ((with_reducible apply w_seql); exact rfl; exact rfl) | ((with_reducible apply w_sneq); exact rfl; exact rfl) | ((with_reducible apply w_beql (ht := Try.underlying4)); exact rfl; exact rfl) | ((with_reducible apply w_bneq (ht := Try.underlying4)); exact rfl; exact rfl) | ((with_reducible apply w_lens (ht := Try.underlying22)); exact rfl) | ((with_reducible apply w_lens (ht := Try.underlying23)); exact rfl) | ((with_reducible apply w_lens (ht := Try.underlying39)); exact rfl) | ((with_reducible apply w_lens (ht := Try.underlying40)); exact rfl) | ((with_reducible apply w_lens (ht := Try.underlying47)); exact rfl) | ((with_reducible apply w_lens (ht := Try.underlying48)); exact rfl) | ((with_reducible apply w_lenstr (ht := Try.underlying9)); exact rfl)))
      refine wl_val (ex_index_arr Try.underlying50 size3 rfl rfl rfl hk8) ?_
      refine wl_val (ex_load (v := .int .i64 _) Try.underlying3 rfl rfl cP) ?_
      refine wl_val (ex_subi (c := ((pcnt c.T s.pend k - 1 : Nat) : Int)) rfl rfl (by omega) (by omega)) ?_
      refine wl_val (ex_index_arr Try.underlying50 size3 rfl rfl rfl hk8) ?_
      refine wl_set (v := .int .i64 ((pcnt c.T s.pend k - 1 : Nat) : Int)) hp4 hk8 size3 rfl rfl rfl fun w5 ha5 hb5 hs5 hk5 => ?_
      refine wpList_nil (hR _ _ rfl ⟨⟨rfl, rfl, rfl, rfl, rfl, rfl, rfl, rfl, rfl, rfl, rfl, rfl⟩, rfl, rfl, hk5 _ _ _ (Or.inr (by simp)) kp4, by omega, ha5.congr (fun q hq => ?_)⟩)
      by_cases e : q = k
      · subst e; simp [hp]
      · have h1 : (q < k + 1) = (q < k) := by apply propext; omega
        simp only [if_neg e, h1]
    · refine wp_skip (hR _ _ rfl ⟨⟨rfl, rfl, rfl, rfl, rfl, rfl, rfl, rfl, rfl, rfl, rfl, rfl⟩, rfl, rfl, kp4, sz4, hp4.congr (fun q hq => ?_)⟩)
      by_cases e : q = k
      · subst e; simp [hp]
      · have h1 : (q < k + 1) = (q < k) := by apply propext; omega
        simp only [h1]
  rintro f w4 ⟨hf1, f24, f25, kp4, sz4, hp4⟩
  obtain ⟨g, rfl⟩ : ∃ g, f = upd (ffr c s.nxt s.pend.length p o g) 24 (.int .i64 (idx : Nat)) := ⟨f, by rw [← hf1.open, ← upd_id f24]⟩
  clear hf1 f24 f25
  have k4 : ∀ j, j < w.heap.size → j ≠ c.N → j ≠ c.N + 4 → w4.heap[j]? = w.heap[j]? := fun j hj h0 h4 => (kp4.block j (by omega) (by simpa using h4)).trans (k3 j hj h0)
  have kpN4 : Kp c.N [] c.wN w4 := kpN3.trans (kp4.mono (by omega) (fun k hk hm => by simp at hm; omega))
  have app4 : App w4 (c.N + 1) c.N m' := app3.keep (kp4.block _ app3.ltA (by simp)) (kp4.block _ app3.2.lt (by simp))
  have pd4 : Arr w4 (c.N + 3) c.tx.length 3 s.pf := hw.pd.of_block (k4 _ (by omega) (by omega) (by omega))
  have cZ : w4.cell? ⟨c.N + 3, s.pend.length - 1, none⟩ = some (.int .i64 (z : Nat)) := by
    rw [pd4.cell (by omega), hw.pdv _ _ hz]
  refine xt_n (sq_region ?_)
  (repeat (first | ((with_reducible apply w_mv); first | exact (rfl : _ = Value.int _ _) | exact (rfl : _ = Value.bool _) | exact (rfl : _ = Value.slice _ _ _) | exact (rfl : _ = Value.map _) | exact (rfl : _ = Value.pointer _) | exact (rfl : _ = Value.string _) | exact (rfl : _ = Value.tuple _) | exact rfl) | ((with_reducible apply w_as); first | exact (rfl : _ = Value.int _ _) | exact (rfl : _ = Value.bool _) | exact (rfl : _ = Value.slice _ _ _) | exact (rfl : _ = Value.map _) | exact (rfl : _ = Value.pointer _) | exact (rfl : _ = Value.string _) | exact (rfl : _ = Value.tuple _) | exact rfl) | ((with_reducible apply w_ext); exact rfl; exact rfl) | ((with_reducible apply w_not); exact rfl) | ((with_reducible apply w_nc); exact rfl) | ((with_reducible apply w_lss); exact rfl; exact rfl) | ((with_reducible apply w_gtr); exact rfl; exact rfl) | ((with_reducible apply w_geq); exact rfl; exact rfl) | ((with_reducible apply w_eql); exact rfl; exact rfl) | ((with_reducible apply w_neq); exact rfl; exact rfl) | ((with_reducible apply w_seql); exact rfl; exact rfl) | ((with_reducible apply w_sneq); exact rfl; exact rfl) | ((with_reducible apply w_beql (ht := Try.underlying4)); exact rfl; exact rfl) | ((with_reducible apply w_bneq (ht := Try.underlying4)); exact rfl; exact rfl) | ((with_reducible apply w_lens (ht := Try.underlying22)); exact rfl) | ((with_reducible apply w_lens (ht := Try.underlying23)); exact rfl) | ((with_reducible apply w_lens (ht := Try.underlying39)); exact rfl) | ((with_reducible apply w_lens (ht := Try.underlying40)); exact rfl) | ((with_reducible apply w_lens (ht := Try.underlying47)); exact rfl) | ((with_reducible apply w_lens (ht := Try.underlying48)); exact rfl) | ((with_reducible apply w_lenstr (ht := Try.underlying9)); exact rfl)))
  refine wl_val (ex_subi (c := ((s.pend.length - 1 : Nat) : Int)) rfl rfl (by omega) (by omega)) ?_
  (repeat (first | ((with_reducible apply w_mv); first | exact (rfl : _ = Value.int _ _) | exact (rfl : _ = Value.bool _) | exact (rfl : _ = Value.slice _ _ _) | exact (rfl : _ = Value.map _) | exact (rfl : _ = Value.pointer _) | exact (rfl : _ = Value.string _) | exact (rfl : _ = Value.tuple _) | exact rfl) | ((with_reducible apply w_as); first | exact (rfl : _ = Value.int _ _) | exact (rfl : _ = Value.bool _) | exact (rfl : _ = Value.slice _ _ _) | exact (rfl : _ = Value.map _) | exact (rfl : _ = Value.pointer _) | exact (rfl : _ = Value.string _) | exact (rfl : _ = Value.tuple _) | exact rfl) | ((with_reducible apply w_ext); exact rfl; exact rfl) | ((with_reducible apply w_not); exact rfl) | ((with_reducible apply w_nc); exact rfl) | ((with_reducible apply w_lss); exact rfl; exact rfl) | ((with_reducible apply w_gtr); exact rfl; exact rfl) | ((with_reducible apply w_geq); exact rfl; exact rfl) | ((with_reducible apply w_eql); exact rfl; exact rfl) | ((with_reducible apply w_neq); exact rfl; exact rfl) | ((with_reducible apply w_seql); exact rfl; exact rfl) | ((with_reducible apply w_sneq); exact rfl; exact rfl) | ((with_reducible apply w_beql (ht := Try.underlying4)); exact rfl; exact rfl) | ((with_reducible apply w_bneq (ht := Try.underlying4)); exact rfl; exact rfl) | ((with_reducible apply w_lens (ht := Try.underlying22)); exact rfl) | ((with_reducible apply w_lens (ht := Try.underlying23)); exact rfl) | ((with_reducible apply w_lens (ht := Try.underlying39)); exact rfl) | ((with_reducible apply w_lens (ht := Try.underlying40)); exact rfl) | ((with_reducible apply w_lens (ht := Try.underlying47)); exact rfl) | ((with_reducible apply w_lens (ht := Try.underlying48)); exact rfl) | ((with_reducible apply w_lenstr (ht := Try.underlying9)); exact rfl)))
  (refine sq_nil ?_)
  refine sq_region ?_
  (repeat (first | ((with_reducible apply w_mv); first | exact (rfl : _ = Value.int _ _) | exact (rfl : _ = Value.bool _) | exact (rfl : _ = Value.slice _ _ _) | exact (rfl : _ = Value.map _) | exact (rfl : _ = Value.pointer _) | exact (rfl : _ = Value.string _) | exact (rfl : _ = Value.tuple _) | exact rfl) | ((with_reducible apply w_as); first | exact (rfl : _ = Value.int _ _) | exact (rfl : _ = Value.bool _) | exact (rfl : _ = Value.slice _ _ _) | exact (rfl : _ = Value.map _) | exact (rfl : _ = Value.pointer _) | exact (rfl : _ = Value.string _) | exact (rfl : _ = Value.tuple _) | exact rfl) | ((with_reducible apply w_ext); exact rfl; exact rfl) | ((with_reducible apply w_not); exact rfl) | ((with_reducible apply w_nc); exact rfl) | ((with_reducible apply w_lss); exact rfl; exact rfl) | ((with_reducible apply w_gtr); exact rfl; exact rfl) | ((with_reducible apply w_geq); exact rfl; exact rfl) | ((with_reducible apply w_eql); exact rfl; exact rfl) | ((with_reducible apply w_neq); exact rfl; exact rfl) | ((with_reducible apply w_seql); exact rfl; exact rfl) | ((with_reducible apply w_sneq); exact rfl; exact rfl) | ((with_reducible apply w_beql (ht := Try.underlying4)); exact rfl; exact rfl) | ((with_reducible apply w_bneq (ht := Try.underlying4)); exact rfl; exact rfl) | ((with_reducible apply w_lens (ht := Try.underlying22)); exact rfl) | ((with_reducible apply w_lens (ht := Try.underlying23)); exact rfl) | ((with_reducible apply w_lens (ht := Try.underlying39)); exact rfl) | ((with_reducible apply w_lens (ht := Try.underlying40)); exact rfl) | ((with_reducible apply w_lens (ht := Try.underlying47)); exact rfl) | ((with_reducible apply w_lens (ht := Try.underlying48)); exact rfl) | ((with_reducible apply w_lenstr (ht := Try.underlying9)); exact rfl)))
  refine wl_val (ex_index0 Try.underlying48 size3 rfl rfl rfl (by omega)) ?_
  refine wl_val (ex_load (v := .int .i64 _) Try.underlying3 rfl rfl cZ) ?_
  refine wl_val (ex_index0 Try.underlying48 size3 rfl rfl rfl hidx) ?_
  refine wl_set (v := .int .i64 ((z : Nat) : Int)) pd4 (Nat.lt_of_lt_of_le hidx (by omega)) size3 rfl rfl rfl fun w5 pd5 hb5 hs5 hk5 => ?_
  (refine sq_nil ?_)
  refine wp_region_lit ?_
  (repeat (first | ((with_reducible apply w_mv); first | exact (rfl : _ = Value.int _ _) | exact (rfl : _ = Value.bool _) | exact (rfl : _ = Value.slice _ _ _) | exact (rfl : _ = Value.map _) | exact (rfl : _ = Value.pointer _) | exact (rfl : _ = Value.string _) | exact (rfl : _ = Value.tuple _) | exact rfl) | ((with_reducible apply w_as); first | exact (rfl : _ = Value.int _ _) | exact (rfl : _ = Value.bool _) | exact (rfl : _ = Value.slice _ _ _) | exact (rfl : _ = Value.map _) | exact (rfl : _ = Value.pointer _) | exact (rfl : _ = Value.string _) | exact (rfl : _ = Value.tuple _) | exact rfl) | ((with_reducible apply w_ext); exact rfl; exact rfl) | ((with_reducible apply w_not); exact rfl) | ((with_reducible apply w_nc); exact rfl) | ((with_reducible apply w_lss); exact rfl; exact rfl) | ((with_reducible apply w_gtr); exact rfl; exact rfl) | ((with_reducible apply w_geq); exact rfl; exact rfl) | ((with_reducible apply w_eql); exact rfl; exact rfl) | ((with_reducible apply w_neq); exact rfl; exact rfl) | ((with_reducible apply w_seql); exact rfl; exact rfl) | ((with_reducible apply w_sneq); exact rfl; exact rfl) | ((with_reducible apply w_beql (ht := Try.underlying4)); exact rfl; exact rfl) | ((with_reducible apply w_bneq (ht := Try.underlying4)); exact rfl; exact rfl) | ((with_reducible apply w_lens (ht := Try.underlying22)); exact rfl) | ((with_reducible apply w_lens (ht := Try.underlying23)); exact rfl) | ((with_reducible apply w_lens (ht := Try.underlying39)); exact rfl) | ((with_reducible apply w_lens (ht := Try.underlying40)); exact rfl) | ((with_reducible apply w_lens (ht := Try.underlying47)); exact rfl) | ((with_reducible apply w_lens (ht := Try.underlying48)); exact rfl) | ((with_reducible apply w_lenstr (ht := Try.underlying9)); exact rfl)))
  refine wl_val (ex_cut Try.underlying48 size3 rfl rfl rfl (by omega)) ?_
  (repeat (first | ((with_reducible apply w_mv); first | exact (rfl : _ = Value.int _ _) | exact (rfl : _ = Value.bool _) | exact (rfl : _ = Value.slice _ _ _) | exact (rfl : _ = Value.map _) | exact (rfl : _ = Value.pointer _) | exact (rfl : _ = Value.string _) | exact (rfl : _ = Value.tuple _) | exact rfl) | ((with_reducible apply w_as); first | exact (rfl : _ = Value.int _ _) | exact (rfl : _ = Value.bool _) | exact (rfl : _ = Value.slice _ _ _) | exact (rfl : _ = Value.map _) | exact (rfl : _ = Value.pointer _) | exact (rfl : _ = Value.string _) | exact (rfl : _ = Value.tuple _) | exact rfl) | ((with_reducible apply w_ext); exact rfl; exact rfl) | ((with_reducible apply w_not); exact rfl) | ((with_reducible apply w_nc); exact rfl) | ((with_reducible apply w_lss); exact rfl; exact rfl) | ((with_reducible apply w_gtr); exact rfl; exact rfl) | ((with_reducible apply w_geq); exact rfl; exact rfl) | ((with_reducible apply w_eql); exact rfl; exact rfl) | ((with_reducible apply w_neq); exact rfl; exact rfl) | ((with_reducible apply w_seql); exact rfl; exact rfl) | ((with_reducible apply w_sneq); exact rfl; exact rfl) | ((with_reducible apply w_beql (ht := Try.underlying4)); exact rfl; exact rfl) | ((with_reducible apply w_bneq (ht := Try.underlying4)); exact rfl; exact rfl) | ((with_reducible apply w_lens (ht := Try.underlying22)); exact rfl) | ((with_reducible apply w_lens (ht := Try.underlying23)); exact rfl) | ((with_reducible apply w_lens (ht := Try.underlying39)); exact rfl) | ((with_reducible apply w_lens (ht := Try.underlying40)); exact rfl) | ((with_reducible apply w_lens (ht := Try.underlying47)); exact rfl) | ((with_reducible apply w_lens (ht := Try.underlying48)); exact rfl) | ((with_reducible apply w_lenstr (ht := Try.underlying9)); exact rfl)))
  have hpc' : ∀ k, pcnt c.T s.pend k = pcnt c.T l' k + if (c.T i).testBit k then 1 else 0 := fun k => by rw [pcnt_perm hperm, pcnt_cons]
  refine wpList_nil (hnorm _ w5 ⟨s.nxt, l', s.tb, m', s.wl, s.wbk, (fun j => if j = idx then .int .i64 ((z : Nat) : Int) else s.pf j)⟩ rfl
    ⟨rfl, rfl, rfl, rfl, rfl, rfl, ?_, rfl, rfl, rfl, rfl, rfl⟩ ⟨hk5 _ _ _ (Or.inl (by omega)) kpN4, by omega, ?_, ?_, ?_, pd5, ?_, ?_, ?_, hle, hinv3⟩)
  · show _ = Value.slice _ l'.length _
    rw [hl']
    rfl
  · exact app4.keep (hb5 _ (by omega)) (hb5 _ (by omega))
  · exact (hw.ws.of_block (k4 _ (by omega) (by omega) (by omega))).of_block (hb5 _ (by omega))
  · intro j hj
    have hmj := hw.maps j hj
    have hlt := hmj.1.lt
    exact ⟨(hmj.1.of_block (k4 _ hlt (by omega) (by omega))).of_block (hb5 _ (by omega)), hmj.2⟩
  · intro j v hv
    have h1 := hget j v hv
    show (if j = idx then Value.int .i64 ((z : Nat) : Int) else s.pf j) = _
    by_cases e : j = idx
    · rw [if_pos e] at h1 ⊢
      rw [h1]
    · rw [if_neg e] at h1 ⊢
      exact hw.pdv j v h1
  · refine (hp4.of_block (hb5 _ (by omega))).congr (fun q hq => ?_)
    show _ = Value.int .i64 ((pcnt c.T l' q : Nat) : Int)
    have h1 := hpc' q
    cases hb : (c.T i).testBit q with
    | true =>
      rw [hb] at h1
      simp only [hq, true_and, ↓reduceIte]
      rw [h1]
      simp
    | false =>
      rw [hb] at h1
      simp at h1 ⊢
      rw [h1]
  · exact (hw.tba.of_block (k4 _ (by omega) (by omega) (by omega))).of_block (hb5 _ (by omega))
end Go.Proofs.Qxb6600002a
