/-
  The loop 'for k := 0; k < 8; k++' in one rule; sameKeys, keyIndex.
-/
import Derived.Test.Qxb6600002aCall
namespace Go.Proofs.Qxb6600002a
set_option linter.unusedSimpArgs false
set_option linter.unusedVariables false
open Go.MapKept Go.ChangeMaps Go.RowKit

theorem ev_tmp {n : Nat} {f : Nat → Value} {t : Nat} (h : Nat.blt t n = true) : ev n f (.tmp t) = f t := by simp [ev, h]

/-- 'for k := 0; k < 8; k++ { body }'. -/
theorem for8 {n kS s1 s2 s3 s4 B B1 i1 i2 : Nat} {body : Code} {t1 t2 t3 t4 t5 t6 t7 t8 t9 : TypeId} {p1 p2 p3 p4 p5 : String} {g1 g2 g3 g4 g5 : Array Edge} {Q : Exit → Act → World → Prop} {f : Nat → Value} {w : World} (J : Nat → (Nat → Value) → World → Prop)
    (hn : [kS, s1, s2, s3, s4].all (fun t => Nat.blt t n) = true) (hd : (s1 ≠ kS ∧ s2 ≠ kS ∧ s3 ≠ kS ∧ s4 ≠ kS) ∧ s2 ≠ s1)
    (hk0 : f kS = .int .i64 ((0 : Nat) : Int)) (h0 : J 0 f w) (hJ : ∀ k f f' w, Agr [kS, s1, s2, s3, s4] f f' → J k f w → J k f' w)
    (hbody : ∀ k f w (R : Exit → Act → World → Prop), k < 8 → f kS = .int .i64 (k : Int) → J k f w → (∀ f' w', f' kS = .int .i64 (k : Int) → J (k + 1) f' w' → R .normal (Fr n f') w') → (∀ a w, Q .ret a w → R .ret a w) → body.wp Try.prog R (Fr n f) w)
    (hdone : ∀ f w, J 8 f w → Q .normal (Fr n f) w) :
    Code.wp Try.prog (.block B (.loop (.seq (.seq (.region i1 #[⟨some s1, .move (.tmp kS), t1, p1, g1, none⟩, ⟨some s2, .binOp .lss t2 (.tmp s1) (.const (.int .i64 8)) t3, t4, p2, g2, none⟩] false) (.cond (.tmp s2) .skip (.exit B)))
      (.seq (.block B1 body) (.region i2 #[⟨some s3, .move (.tmp kS), t5, p3, g3, none⟩, ⟨some s4, .binOp .add t6 (.tmp s3) (.const (.int .i64 1)) t7, t8, p4, g4, none⟩, ⟨some kS, .assign (.tmp s4), t9, p5, g5, none⟩] false))))) Q (Fr n f) w := by
  simp only [List.all_cons, List.all_nil, Bool.and_true, Bool.and_eq_true] at hn
  obtain ⟨nk, n1, n2, n3, n4⟩ := hn
  obtain ⟨⟨d1, d2, d3, d4⟩, d21⟩ := hd
  refine wp_block ?_
  refine loop_ghost (ι := Nat) (fun left a wr => ∃ f k, a = Fr n f ∧ left + k = 8 ∧ f kS = .int .i64 (k : Int) ∧ J k f wr) (fun left => left) 8 ⟨f, 0, rfl, rfl, hk0, h0⟩ ?_
  rintro left a wr ⟨f, k, rfl, hlk, fk, hj⟩
  refine wp_seq (sq_region ?_)
  refine w_mv (v := .int .i64 (k : Int)) (by rw [ev_tmp nk, fk]) ?_
  refine w_lss (a := (k : Int)) (b := 8) (by rw [ev_tmp n1, upd_same]) rfl ?_
  refine sq_nil ?_
  refine cond_s (by rw [ev_tmp n2, upd_same]) (fun hp => ?_) (fun hp => ?_)
  · have hlt : k < 8 := by have := of_decide_eq_true hp; omega
    refine wp_skip (xt_n ?_)
    refine wp_seq (wp_block ?_)
    refine hbody k _ wr _ hlt ?_ (hJ k f _ wr ?_ hj) (fun f' w' fk' hj' => xb_n (xt_n ?_)) (fun a w hq => xb_ret (xt_ret (xt_ret (xb_ret hq))))
    · rw [upd_ne _ _ (Ne.symm d2), upd_ne _ _ (Ne.symm d1), fk]
    · exact Agr.upd _ _ (by simp) (Agr.upd _ _ (by simp) (Agr.refl _ _))
    · refine wp_region_lit ?_
      refine w_mv (v := .int .i64 (k : Int)) (by rw [ev_tmp nk, fk']) ?_
      refine wl_val (ex_addi (a := (k : Int)) (b := 1) (c := ((k + 1 : Nat) : Int)) (by rw [ev_tmp n3, upd_same]) rfl (by omega) (by omega)) ?_
      refine w_as (v := .int .i64 ((k + 1 : Nat) : Int)) (by rw [ev_tmp n4, upd_same]) ?_
      refine wpList_nil (xt_n ⟨left - 1, ⟨_, k + 1, rfl, by omega, upd_same _ _ _, hJ (k + 1) f' _ w' ?_ hj'⟩, by omega⟩)
      exact Agr.upd _ _ (by simp) (Agr.upd _ _ (by simp) (Agr.upd _ _ (by simp) (Agr.refl _ _)))
  · have hk : k = 8 := by have := of_decide_eq_false hp; omega
    subst hk
    refine wp_exit (xt_exit (xt_exit (xb_same (hdone _ _ (hJ 8 f _ wr ?_ hj)))))
    exact Agr.upd _ _ (by simp) (Agr.upd _ _ (by simp) (Agr.refl _ _))

/-! ### the names -/
theorem kn_inj : ∀ i j : Fin 8, kn i = kn j → i = j := by decide
theorem kn_inj' {i j : Nat} (hi : i < 8) (hj : j < 8) (h : kn i = kn j) : i = j := by
  have := kn_inj ⟨i, hi⟩ ⟨j, hj⟩ h
  simpa using this
theorem kn0 : kn 0 = ⟨#[]⟩ := rfl

/-- The names of a mask. -/
def names (m k : Nat) : List ByteArray := ((List.range k).filter fun i => m.testBit i).map kn
def cnt (m k : Nat) : Nat := ((List.range k).filter fun i => m.testBit i).length
theorem cnt_succ (m k : Nat) : cnt m (k + 1) = cnt m k + if m.testBit k then 1 else 0 := by
  unfold cnt
  rw [List.range_succ, List.filter_append]
  cases h : m.testBit k <;> simp [h]
theorem cnt_le (m k : Nat) : cnt m k ≤ k := by
  unfold cnt
  have := List.length_filter_le (fun i => m.testBit i) (List.range k)
  simpa using this
theorem names_length (m k : Nat) : (names m k).length = cnt m k := by simp [names, cnt]
theorem nodup_map_of {α β : Type} {f : α → β} : ∀ {l : List α}, l.Nodup → (∀ x ∈ l, ∀ y ∈ l, f x = f y → x = y) → (l.map f).Nodup
  | [], _, _ => by simp
  | a :: l, h, hi => by
    rw [List.nodup_cons] at h
    rw [List.map_cons, List.nodup_cons]
    refine ⟨fun hm => ?_, nodup_map_of h.2 (fun x hx y hy => hi x (by simp [hx]) y (by simp [hy]))⟩
    obtain ⟨b, hb, he⟩ := List.mem_map.1 hm
    have := hi b (by simp [hb]) a (by simp) he
    subst this
    exact h.1 hb
theorem names_nodup (m : Nat) : (names m 8).Nodup := by
  refine nodup_map_of (List.nodup_range.filter _) (fun i hi j hj h => ?_)
  simp at hi hj
  exact kn_inj' hi.1 hj.1 h
theorem mem_names {m : Nat} {s : ByteArray} : s ∈ names m 8 ↔ ∃ i, i < 8 ∧ m.testBit i = true ∧ kn i = s := by
  unfold names
  constructor
  · intro h
    obtain ⟨i, hi, he⟩ := List.mem_map.1 h
    simp at hi
    exact ⟨i, hi.1, hi.2, he⟩
  · rintro ⟨i, h1, h2, h3⟩
    exact List.mem_map.2 ⟨i, by simp [h1, h2], h3⟩

/-- The map's keys are those of the mask. -/
def KeysAre (wm : List (ByteArray × Nat)) (m : Nat) : Prop := ∀ s, mget wm s = none ↔ s ∉ names m 8

/-! ### sameKeys -/
set_option maxHeartbeats 1000000 in
theorem sameKeys_any (D m : Nat) (wm : List (ByteArray × Nat)) (w : World) (hd : MapAt encU w D wm) (hm : m < 256) (hk : KeysAre wm m) :
    Calls Try.prog 22 #[.map (some D), .int .u8 m] w fun e w' => e = .returned (.bool true) ∧ w' = w := by
  have hlen : wm.length = cnt m 8 := by rw [← names_length]; exact length_eq_of_names hd.uniq (names_nodup m) hk
  refine enter2 Try.func22 rfl Try.ntmps22 (by decide) fun g => ?_
  refine sq_region ?_
  (repeat (first | ((with_reducible apply w_mv); first | exact (rfl : _ = Value.int _ _) | exact (rfl : _ = Value.bool _) | exact (rfl : _ = Value.slice _ _ _) | exact (rfl : _ = Value.map _) | exact (rfl : _ = Value.pointer _) | exact (rfl : _ = Value.string _) | exact (rfl : _ = Value.tuple _) | exact rfl) | ((with_reducible apply w_as); first | exact (rfl : _ = Value.int _ _) | exact (rfl : _ = Value.bool _) | exact (rfl : _ = Value.slice _ _ _) | exact (rfl : _ = Value.map _) | exact (rfl : _ = Value.pointer _) | exact (rfl : _ = Value.string _) | exact (rfl : _ = Value.tuple _) | exact rfl) | ((with_reducible apply w_ext); exact rfl; exact rfl) | ((with_reducible apply w_not); exact rfl) | ((with_reducible apply w_nc); exact rfl) | ((with_reducible apply w_lss); exact rfl; exact rfl) | ((with_reducible apply w_gtr); exact rfl; exact rfl) | ((with_reducible apply w_geq); exact rfl; exact rfl) | ((with_reducible apply w_eql); exact rfl; exact rfl) | ((with_reducible apply w_neq); exact rfl; exact rfl) | ((with_reducible apply w_seql); exact rfl; exact rfl) | ((with_reducible apply w_sneq); exact rfl; exact rfl) | ((with_reducible apply w_beql (ht := Try.underlying4)); exact rfl; exact rfl) | ((with_reducible apply w_bneq (ht := Try.underlying4)); exact rfl; exact rfl) | ((with_reducible apply w_lens (ht := Try.underlying22)); exact rfl) | ((with_reducible apply w_lens (ht := Try.underlying23)); exact rfl) | ((with_reducible apply w_lens (ht := Try.underlying39)); exact rfl) | ((with_reducible apply w_lens (ht := Try.underlying40)); exact rfl) | ((with_reducible apply w_lens (ht := Try.underlying47)); exact rfl) | ((with_reducible apply w_lens (ht := Try.underlying48)); exact rfl) | ((with_reducible apply w_lenstr (ht := Try.underlying9)); exact rfl)))
  (refine sq_nil ?_)
  refine sq_region ?_
  (repeat (first | ((with_reducible apply w_mv); first | exact (rfl : _ = Value.int _ _) | exact (rfl : _ = Value.bool _) | exact (rfl : _ = Value.slice _ _ _) | exact (rfl : _ = Value.map _) | exact (rfl : _ = Value.pointer _) | exact (rfl : _ = Value.string _) | exact (rfl : _ = Value.tuple _) | exact rfl) | ((with_reducible apply w_as); first | exact (rfl : _ = Value.int _ _) | exact (rfl : _ = Value.bool _) | exact (rfl : _ = Value.slice _ _ _) | exact (rfl : _ = Value.map _) | exact (rfl : _ = Value.pointer _) | exact (rfl : _ = Value.string _) | exact (rfl : _ = Value.tuple _) | exact rfl) | ((with_reducible apply w_ext); exact rfl; exact rfl) | ((with_reducible apply w_not); exact rfl) | ((with_reducible apply w_nc); exact rfl) | ((with_reducible apply w_lss); exact rfl; exact rfl) | ((with_reducible apply w_gtr); exact rfl; exact rfl) | ((with_reducible apply w_geq); exact rfl; exact rfl) | ((with_reducible apply w_eql); exact rfl; exact rfl) | ((with_reducible apply w_neq); exact rfl; exact rfl) | ((with_reducible apply w_seql); exact rfl; exact rfl) | ((with_reducible apply w_sneq); exact rfl; exact rfl) | ((with_reducible apply w_beql (ht := Try.underlying4)); exact rfl; exact rfl) | ((with_reducible apply w_bneq (ht := Try.underlying4)); exact rfl; exact rfl) | ((with_reducible apply w_lens (ht := Try.underlying22)); exact rfl) | ((with_reducible apply w_lens (ht := Try.underlying23)); exact rfl) | ((with_reducible apply w_lens (ht := Try.underlying39)); exact rfl) | ((with_reducible apply w_lens (ht := Try.underlying40)); exact rfl) | ((with_reducible apply w_lens (ht := Try.underlying47)); exact rfl) | ((with_reducible apply w_lens (ht := Try.underlying48)); exact rfl) | ((with_reducible apply w_lenstr (ht := Try.underlying9)); exact rfl)))
  (refine sq_nil ?_)
  refine wp_seq (sq_region ?_)
  (repeat (first | ((with_reducible apply w_mv); first | exact (rfl : _ = Value.int _ _) | exact (rfl : _ = Value.bool _) | exact (rfl : _ = Value.slice _ _ _) | exact (rfl : _ = Value.map _) | exact (rfl : _ = Value.pointer _) | exact (rfl : _ = Value.string _) | exact (rfl : _ = Value.tuple _) | exact rfl) | ((with_reducible apply w_as); first | exact (rfl : _ = Value.int _ _) | exact (rfl : _ = Value.bool _) | exact (rfl : _ = Value.slice _ _ _) | exact (rfl : _ = Value.map _) | exact (rfl : _ = Value.pointer _) | exact (rfl : _ = Value.string _) | exact (rfl : _ = Value.tuple _) | exact rfl) | ((with_reducible apply w_ext); exact rfl; exact rfl) | ((with_reducible apply w_not); exact rfl) | ((with_reducible apply w_nc); exact rfl) | ((with_reducible apply w_lss); exact rfl; exact rfl) | ((with_reducible apply w_gtr); exact rfl; exact rfl) | ((with_reducible apply w_geq); exact rfl; exact rfl) | ((with_reducible apply w_eql); exact rfl; exact rfl) | ((with_reducible apply w_neq); exact rfl; exact rfl) | ((with_reducible apply w_seql); exact rfl; exact rfl) | ((with_reducible apply w_sneq); exact rfl; exact rfl) | ((with_reducible apply w_beql (ht := Try.underlying4)); exact rfl; exact rfl) | ((with_reducible apply w_bneq (ht := Try.underlying4)); exact rfl; exact rfl) | ((with_reducible apply w_lens (ht := Try.underlying22)); exact rfl) | ((with_reducible apply w_lens (ht := Try.underlying23)); exact rfl) | ((with_reducible apply w_lens (ht := Try.underlying39)); exact rfl) | ((with_reducible apply w_lens (ht := Try.underlying40)); exact rfl) | ((with_reducible apply w_lens (ht := Try.underlying47)); exact rfl) | ((with_reducible apply w_lens (ht := Try.underlying48)); exact rfl) | ((with_reducible apply w_lenstr (ht := Try.underlying9)); exact rfl)))
  (refine sq_nil ?_)
  refine for8 (fun k f wr => w = wr ∧ f 0 = .map (some D) ∧ f 1 = .int .u8 m ∧ f 5 = .int .i64 (cnt m k : Nat)) rfl (by decide) rfl ⟨rfl, rfl, rfl, rfl⟩ ?_ ?_ ?_
  · rintro k f f' wr ha ⟨rfl, f0, f1, f5⟩
    exact ⟨rfl, (ha 0 rfl).trans f0, (ha 1 rfl).trans f1, (ha 5 rfl).trans f5⟩
  · rintro k f wr R hk8 fk ⟨rfl, f0, f1, f5⟩ hR hret
    obtain ⟨g, rfl⟩ : ∃ g, f = upd (upd (upd (upd g 0 (.map (some D))) 1 (.int .u8 m)) 5 (.int .i64 (cnt m k : Nat))) 6 (.int .i64 (k : Int)) := ⟨f, by rw [← upd_id f0, ← upd_id f1, ← upd_id f5, ← upd_id fk]⟩
    clear f0 f1 f5 fk
    refine sq_region ?_
    (repeat (first | ((with_reducible apply w_mv); first | exact (rfl : _ = Value.int _ _) | exact (rfl : _ = Value.bool _) | exact (rfl : _ = Value.slice _ _ _) | exact (rfl : _ = Value.map _) | exact (rfl : _ = Value.pointer _) | exact (rfl : _ = Value.string _) | exact (rfl : _ = Value.tuple _) | exact rfl) | ((with_reducible apply w_as); first | exact (rfl : _ = Value.int _ _) | exact (rfl : _ = Value.bool _) | exact (rfl : _ = Value.slice _ _ _) | exact (rfl : _ = Value.map _) | exact (rfl : _ = Value.pointer _) | exact (rfl : _ = Value.string _) | exact (rfl : _ = Value.tuple _) | exact rfl) | ((with_reducible apply w_ext); exact rfl; exact rfl) | ((with_reducible apply w_not); exact rfl) | ((with_reducible apply w_nc); exact rfl) | ((with_reducible apply w_lss); exact rfl; exact rfl) | ((with_reducible apply w_gtr); exact rfl; exact rfl) | ((with_reducible apply w_geq); exact rfl; exact rfl) | ((with_reducible apply w_eql); exact rfl; exact rfl) | ((with_reducible apply w_neq); exact rfl; exact rfl) | ((with_reducible apply w_seql); exact rfl; exact rfl) | ((with_reducible apply w_sneq); exact rfl; exact rfl) | ((with_reducible apply w_beql (ht := Try.underlying4)); exact rfl; exact rfl) | ((with_reducible apply w_bneq (ht := Try.underlying4)); exact rfl; exact rfl) | ((with_reducible apply w_lens (ht := Try.underlying22)); exact rfl) | ((with_reducible apply w_lens (ht := Try.underlying23)); exact rfl) | ((with_reducible apply w_lens (ht := Try.underlying39)); exact rfl) | ((with_reducible apply w_lens (ht := Try.underlying40)); exact rfl) | ((with_reducible apply w_lens (ht := Try.underlying47)); exact rfl) | ((with_reducible apply w_lens (ht := Try.underlying48)); exact rfl) | ((with_reducible apply w_lenstr (ht := Try.underlying9)); exact rfl)))
    refine w_call2 ok20 ((hasKey_any m k hm hk8 w).mono ?_) rfl rfl
    rintro e w' ⟨rfl, hw⟩
    have hw := hw.symm
    subst hw
    refine ⟨_, rfl, ?_⟩
    (refine sq_nil ?_)
    refine cond_s rfl (fun hp => ?_) (fun hp => ?_)
    · have hin : (mget wm (kn k)).isSome = true := by
        cases hg : mget wm (kn k) with
        | some _ => rfl
        | none => exact absurd (mem_names.2 ⟨k, hk8, hp, rfl⟩) ((hk _).1 hg)
      have hcs : cnt m (k + 1) = cnt m k + 1 := by rw [cnt_succ, hp]; rfl
      have hcl := cnt_le m k
      refine sq_region ?_
      (repeat (first | ((with_reducible apply w_mv); first | exact (rfl : _ = Value.int _ _) | exact (rfl : _ = Value.bool _) | exact (rfl : _ = Value.slice _ _ _) | exact (rfl : _ = Value.map _) | exact (rfl : _ = Value.pointer _) | exact (rfl : _ = Value.string _) | exact (rfl : _ = Value.tuple _) | exact rfl) | ((with_reducible apply w_as); first | exact (rfl : _ = Value.int _ _) | exact (rfl : _ = Value.bool _) | exact (rfl : _ = Value.slice _ _ _) | exact (rfl : _ = Value.map _) | exact (rfl : _ = Value.pointer _) | exact (rfl : _ = Value.string _) | exact (rfl : _ = Value.tuple _) | exact rfl) | ((with_reducible apply w_ext); exact rfl; exact rfl) | ((with_reducible apply w_not); exact rfl) | ((with_reducible apply w_nc); exact rfl) | ((with_reducible apply w_lss); exact rfl; exact rfl) | ((with_reducible apply w_gtr); exact rfl; exact rfl) | ((with_reducible apply w_geq); exact rfl; exact rfl) | ((with_reducible apply w_eql); exact rfl; exact rfl) | ((with_reducible apply w_neq); exact rfl; exact rfl) | ((with_reducible apply w_seql); exact rfl; exact rfl) | ((with_reducible apply w_sneq); exact rfl; exact rfl) | ((with_reducible apply w_beql (ht := Try.underlying4)); exact rfl; exact rfl) | ((with_reducible apply w_bneq (ht := Try.underlying4)); exact rfl; exact rfl) | ((with_reducible apply w_lens (ht := Try.underlying22)); exact rfl) | ((with_reducible apply w_lens (ht := Try.underlying23)); exact rfl) | ((with_reducible apply w_lens (ht := Try.underlying39)); exact rfl) | ((with_reducible apply w_lens (ht := Try.underlying40)); exact rfl) | ((with_reducible apply w_lens (ht := Try.underlying47)); exact rfl) | ((with_reducible apply w_lens (ht := Try.underlying48)); exact rfl) | ((with_reducible apply w_lenstr (ht := Try.underlying9)); exact rfl)))
      refine wl_val (ex_addi (c := ((cnt m (k + 1) : Nat) : Int)) rfl rfl (by omega) (by omega)) ?_
      (repeat (first | ((with_reducible apply w_mv); first | exact (rfl : _ = Value.int _ _) | exact (rfl : _ = Value.bool _) | exact (rfl : _ = Value.slice _ _ _) | exact (rfl : _ = Value.map _) | exact (rfl : _ = Value.pointer _) | exact (rfl : _ = Value.string _) | exact (rfl : _ = Value.tuple _) | exact rfl) | ((with_reducible apply w_as); first | exact (rfl : _ = Value.int _ _) | exact (rfl : _ = Value.bool _) | exact (rfl : _ = Value.slice _ _ _) | exact (rfl : _ = Value.map _) | exact (rfl : _ = Value.pointer _) | exact (rfl : _ = Value.string _) | exact (rfl : _ = Value.tuple _) | exact rfl) | ((with_reducible apply w_ext); exact rfl; exact rfl) | ((with_reducible apply w_not); exact rfl) | ((with_reducible apply w_nc); exact rfl) | ((with_reducible apply w_lss); exact rfl; exact rfl) | ((with_reducible apply w_gtr); exact rfl; exact rfl) | ((with_reducible apply w_geq); exact rfl; exact rfl) | ((with_reducible apply w_eql); exact rfl; exact rfl) | ((with_reducible apply w_neq); exact rfl; exact rfl) | ((with_reducible apply w_seql); exact rfl; exact rfl) | ((with_reducible apply w_sneq); exact rfl; exact rfl) | ((with_reducible apply w_beql (ht := Try.underlying4)); exact rfl; exact rfl) | ((with_reducible apply w_bneq (ht := Try.underlying4)); exact rfl; exact rfl) | ((with_reducible apply w_lens (ht := Try.underlying22)); exact rfl) | ((with_reducible apply w_lens (ht := Try.underlying23)); exact rfl) | ((with_reducible apply w_lens (ht := Try.underlying39)); exact rfl) | ((with_reducible apply w_lens (ht := Try.underlying40)); exact rfl) | ((with_reducible apply w_lens (ht := Try.underlying47)); exact rfl) | ((with_reducible apply w_lens (ht := Try.underlying48)); exact rfl) | ((with_reducible apply w_lenstr (ht := Try.underlying9)); exact rfl)))
      (refine sq_nil ?_)
      refine sq_region ?_
      (repeat (first | ((with_reducible apply w_mv); first | exact (rfl : _ = Value.int _ _) | exact (rfl : _ = Value.bool _) | exact (rfl : _ = Value.slice _ _ _) | exact (rfl : _ = Value.map _) | exact (rfl : _ = Value.pointer _) | exact (rfl : _ = Value.string _) | exact (rfl : _ = Value.tuple _) | exact rfl) | ((with_reducible apply w_as); first | exact (rfl : _ = Value.int _ _) | exact (rfl : _ = Value.bool _) | exact (rfl : _ = Value.slice _ _ _) | exact (rfl : _ = Value.map _) | exact (rfl : _ = Value.pointer _) | exact (rfl : _ = Value.string _) | exact (rfl : _ = Value.tuple _) | exact rfl) | ((with_reducible apply w_ext); exact rfl; exact rfl) | ((with_reducible apply w_not); exact rfl) | ((with_reducible apply w_nc); exact rfl) | ((with_reducible apply w_lss); exact rfl; exact rfl) | ((with_reducible apply w_gtr); exact rfl; exact rfl) | ((with_reducible apply w_geq); exact rfl; exact rfl) | ((with_reducible apply w_eql); exact rfl; exact rfl) | ((with_reducible apply w_neq); exact rfl; exact rfl) | ((with_reducible apply w_seql); exact rfl; exact rfl) | ((with_reducible apply w_sneq); exact rfl; exact rfl) | ((with_reducible apply w_beql (ht := Try.underlying4)); exact rfl; exact rfl) | ((with_reducible apply w_bneq (ht := Try.underlying4)); exact rfl; exact rfl) | ((with_reducible apply w_lens (ht := Try.underlying22)); exact rfl) | ((with_reducible apply w_lens (ht := Try.underlying23)); exact rfl) | ((with_reducible apply w_lens (ht := Try.underlying39)); exact rfl) | ((with_reducible apply w_lens (ht := Try.underlying40)); exact rfl) | ((with_reducible apply w_lens (ht := Try.underlying47)); exact rfl) | ((with_reducible apply w_lens (ht := Try.underlying48)); exact rfl) | ((with_reducible apply w_lenstr (ht := Try.underlying9)); exact rfl)))
      refine w_call1 ok21 ((keyName_any k hk8 w).mono ?_) rfl
      rintro e w' ⟨rfl, hw⟩
      have hw := hw.symm
      subst hw
      refine ⟨_, rfl, ?_⟩
      refine wl_val (ex_lookup_ok hd Try.underlying28 Try.underlying9 (zeroU w) rfl rfl) ?_
      rw [hin]
      (repeat (first | ((with_reducible apply w_mv); first | exact (rfl : _ = Value.int _ _) | exact (rfl : _ = Value.bool _) | exact (rfl : _ = Value.slice _ _ _) | exact (rfl : _ = Value.map _) | exact (rfl : _ = Value.pointer _) | exact (rfl : _ = Value.string _) | exact (rfl : _ = Value.tuple _) | exact rfl) | ((with_reducible apply w_as); first | exact (rfl : _ = Value.int _ _) | exact (rfl : _ = Value.bool _) | exact (rfl : _ = Value.slice _ _ _) | exact (rfl : _ = Value.map _) | exact (rfl : _ = Value.pointer _) | exact (rfl : _ = Value.string _) | exact (rfl : _ = Value.tuple _) | exact rfl) | ((with_reducible apply w_ext); exact rfl; exact rfl) | ((with_reducible apply w_not); exact rfl) | ((with_reducible apply w_nc); exact rfl) | ((with_reducible apply w_lss); exact rfl; exact rfl) | ((with_reducible apply w_gtr); exact rfl; exact rfl) | ((with_reducible apply w_geq); exact rfl; exact rfl) | ((with_reducible apply w_eql); exact rfl; exact rfl) | ((with_reducible apply w_neq); exact rfl; exact rfl) | ((with_reducible apply w_seql); exact rfl; exact rfl) | ((with_reducible apply w_sneq); exact rfl; exact rfl) | ((with_reducible apply w_beql (ht := Try.underlying4)); exact rfl; exact rfl) | ((with_reducible apply w_bneq (ht := Try.underlying4)); exact rfl; exact rfl) | ((with_reducible apply w_lens (ht := Try.underlying22)); exact rfl) | ((with_reducible apply w_lens (ht := Try.underlying23)); exact rfl) | ((with_reducible apply w_lens (ht := Try.underlying39)); exact rfl) | ((with_reducible apply w_lens (ht := Try.underlying40)); exact rfl) | ((with_reducible apply w_lens (ht := Try.underlying47)); exact rfl) | ((with_reducible apply w_lens (ht := Try.underlying48)); exact rfl) | ((with_reducible apply w_lenstr (ht := Try.underlying9)); exact rfl)))
      (refine sq_nil ?_)
      refine sq_region ?_
      (repeat (first | ((with_reducible apply w_mv); first | exact (rfl : _ = Value.int _ _) | exact (rfl : _ = Value.bool _) | exact (rfl : _ = Value.slice _ _ _) | exact (rfl : _ = Value.map _) | exact (rfl : _ = Value.pointer _) | exact (rfl : _ = Value.string _) | exact (rfl : _ = Value.tuple _) | exact rfl) | ((with_reducible apply w_as); first | exact (rfl : _ = Value.int _ _) | exact (rfl : _ = Value.bool _) | exact (rfl : _ = Value.slice _ _ _) | exact (rfl : _ = Value.map _) | exact (rfl : _ = Value.pointer _) | exact (rfl : _ = Value.string _) | exact (rfl : _ = Value.tuple _) | exact rfl) | ((with_reducible apply w_ext); exact rfl; exact rfl) | ((with_reducible apply w_not); exact rfl) | ((with_reducible apply w_nc); exact rfl) | ((with_reducible apply w_lss); exact rfl; exact rfl) | ((with_reducible apply w_gtr); exact rfl; exact rfl) | ((with_reducible apply w_geq); exact rfl; exact rfl) | ((with_reducible apply w_eql); exact rfl; exact rfl) | ((with_reducible apply w_neq); exact rfl; exact rfl) | ((with_reducible apply w_seql); exact rfl; exact rfl) | ((with_reducible apply w_sneq); exact rfl; exact rfl) | ((with_reducible apply w_beql (ht := Try.underlying4)); exact rfl; exact rfl) | ((with_reducible apply w_bneq (ht := Try.underlying4)); exact rfl; exact rfl) | ((with_reducible apply w_lens (ht := Try.underlying22)); exact rfl) | ((with_reducible apply w_lens (ht := Try.underlying23)); exact rfl) | ((with_reducible apply w_lens (ht := Try.underlying39)); exact rfl) | ((with_reducible apply w_lens (ht := Try.underlying40)); exact rfl) | ((with_reducible apply w_lens (ht := Try.underlying47)); exact rfl) | ((with_reducible apply w_lens (ht := Try.underlying48)); exact rfl) | ((with_reducible apply w_lenstr (ht := Try.underlying9)); exact rfl)))
      (refine sq_nil ?_)
      refine cond_n rfl rfl (wp_skip (hR _ _ rfl ⟨rfl, rfl, rfl, rfl⟩))
    · have hcs : cnt m (k + 1) = cnt m k := by rw [cnt_succ, hp]; rfl
      refine wp_skip (hR _ _ rfl ⟨rfl, rfl, rfl, ?_⟩)
      rw [hcs]
      rfl
  · rintro f wr ⟨rfl, f0, f1, f5⟩
    obtain ⟨g, rfl⟩ : ∃ g, f = upd (upd (upd g 0 (.map (some D))) 1 (.int .u8 m)) 5 (.int .i64 (cnt m 8 : Nat)) := ⟨f, by rw [← upd_id f0, ← upd_id f1, ← upd_id f5]⟩
    clear f0 f1 f5
    refine xt_n (sq_region ?_)
    (repeat (first | ((with_reducible apply w_mv); first | exact (rfl : _ = Value.int _ _) | exact (rfl : _ = Value.bool _) | exact (rfl : _ = Value.slice _ _ _) | exact (rfl : _ = Value.map _) | exact (rfl : _ = Value.pointer _) | exact (rfl : _ = Value.string _) | exact (rfl : _ = Value.tuple _) | exact rfl) | ((with_reducible apply w_as); first | exact (rfl : _ = Value.int _ _) | exact (rfl : _ = Value.bool _) | exact (rfl : _ = Value.slice _ _ _) | exact (rfl : _ = Value.map _) | exact (rfl : _ = Value.pointer _) | exact (rfl : _ = Value.string _) | exact (rfl : _ = Value.tuple _) | exact rfl) | ((with_reducible apply w_ext); exact rfl; exact rfl) | ((with_reducible apply w_not); exact rfl) | ((with_reducible apply w_nc); exact rfl) | ((with_reducible apply w_lss); exact rfl; exact rfl) | ((with_reducible apply w_gtr); exact rfl; exact rfl) | ((with_reducible apply w_geq); exact rfl; exact rfl) | ((with_reducible apply w_eql); exact rfl; exact rfl) | ((with_reducible apply w_neq); exact rfl; exact rfl) | ((with_reducible apply w_seql); exact rfl; exact rfl) | ((with_reducible apply w_sneq); exact rfl; exact rfl) | ((with_reducible apply w_beql (ht := Try.underlying4)); exact rfl; exact rfl) | ((with_reducible apply w_bneq (ht := Try.underlying4)); exact rfl; exact rfl) | ((with_reducible apply w_lens (ht := Try.underlying22)); exact rfl) | ((with_reducible apply w_lens (ht := Try.underlying23)); exact rfl) | ((with_reducible apply w_lens (ht := Try.underlying39)); exact rfl) | ((with_reducible apply w_lens (ht := Try.underlying40)); exact rfl) | ((with_reducible apply w_lens (ht := Try.underlying47)); exact rfl) | ((with_reducible apply w_lens (ht := Try.underlying48)); exact rfl) | ((with_reducible apply w_lenstr (ht := Try.underlying9)); exact rfl)))
    refine wl_val (ex_len_map hd Try.underlying28 rfl) ?_
    (repeat (first | ((with_reducible apply w_mv); first | exact (rfl : _ = Value.int _ _) | exact (rfl : _ = Value.bool _) | exact (rfl : _ = Value.slice _ _ _) | exact (rfl : _ = Value.map _) | exact (rfl : _ = Value.pointer _) | exact (rfl : _ = Value.string _) | exact (rfl : _ = Value.tuple _) | exact rfl) | ((with_reducible apply w_as); first | exact (rfl : _ = Value.int _ _) | exact (rfl : _ = Value.bool _) | exact (rfl : _ = Value.slice _ _ _) | exact (rfl : _ = Value.map _) | exact (rfl : _ = Value.pointer _) | exact (rfl : _ = Value.string _) | exact (rfl : _ = Value.tuple _) | exact rfl) | ((with_reducible apply w_ext); exact rfl; exact rfl) | ((with_reducible apply w_not); exact rfl) | ((with_reducible apply w_nc); exact rfl) | ((with_reducible apply w_lss); exact rfl; exact rfl) | ((with_reducible apply w_gtr); exact rfl; exact rfl) | ((with_reducible apply w_geq); exact rfl; exact rfl) | ((with_reducible apply w_eql); exact rfl; exact rfl) | ((with_reducible apply w_neq); exact rfl; exact rfl) | ((with_reducible apply w_seql); exact rfl; exact rfl) | ((with_reducible apply w_sneq); exact rfl; exact rfl) | ((with_reducible apply w_beql (ht := Try.underlying4)); exact rfl; exact rfl) | ((with_reducible apply w_bneq (ht := Try.underlying4)); exact rfl; exact rfl) | ((with_reducible apply w_lens (ht := Try.underlying22)); exact rfl) | ((with_reducible apply w_lens (ht := Try.underlying23)); exact rfl) | ((with_reducible apply w_lens (ht := Try.underlying39)); exact rfl) | ((with_reducible apply w_lens (ht := Try.underlying40)); exact rfl) | ((with_reducible apply w_lens (ht := Try.underlying47)); exact rfl) | ((with_reducible apply w_lens (ht := Try.underlying48)); exact rfl) | ((with_reducible apply w_lenstr (ht := Try.underlying9)); exact rfl)))
    (refine sq_nil ?_)
    refine wp_ret (leave1 (v := .bool _) rfl rfl ⟨?_, rfl⟩)
    rw [hlen]
    simp

/-! ### keyIndex, at a name -/
set_option maxHeartbeats 1000000 in
theorem keyIndex_any (j : Nat) (hj : j < 8) (w : World) : Calls Try.prog 23 #[.string (kn j)] w fun e w' => e = .returned (.int .i64 j) ∧ w' = w := by
  refine enter1 Try.func23 rfl Try.ntmps23 (by decide) fun g => ?_
  refine sq_region ?_
  (repeat (first | ((with_reducible apply w_mv); first | exact (rfl : _ = Value.int _ _) | exact (rfl : _ = Value.bool _) | exact (rfl : _ = Value.slice _ _ _) | exact (rfl : _ = Value.map _) | exact (rfl : _ = Value.pointer _) | exact (rfl : _ = Value.string _) | exact (rfl : _ = Value.tuple _) | exact rfl) | ((with_reducible apply w_as); first | exact (rfl : _ = Value.int _ _) | exact (rfl : _ = Value.bool _) | exact (rfl : _ = Value.slice _ _ _) | exact (rfl : _ = Value.map _) | exact (rfl : _ = Value.pointer _) | exact (rfl : _ = Value.string _) | exact (rfl : _ = Value.tuple _) | exact rfl) | ((with_reducible apply w_ext); exact rfl; exact rfl) | ((with_reducible apply w_not); exact rfl) | ((with_reducible apply w_nc); exact rfl) | ((with_reducible apply w_lss); exact rfl; exact rfl) | ((with_reducible apply w_gtr); exact rfl; exact rfl) | ((with_reducible apply w_geq); exact rfl; exact rfl) | ((with_reducible apply w_eql); exact rfl; exact rfl) | ((with_reducible apply w_neq); exact rfl; exact rfl) | ((with_reducible apply w_seql); exact rfl; exact rfl) | ((with_reducible apply w_sneq); exact rfl; exact rfl) | ((with_reducible apply w_beql (ht := Try.underlying4)); exact rfl; exact rfl) | ((with_reducible apply w_bneq (ht := Try.underlying4)); exact rfl; exact rfl) | ((with_reducible apply w_lens (ht := Try.underlying22)); exact rfl) | ((with_reducible apply w_lens (ht := Try.underlying23)); exact rfl) | ((with_reducible apply w_lens (ht := Try.underlying39)); exact rfl) | ((with_reducible apply w_lens (ht := Try.underlying40)); exact rfl) | ((with_reducible apply w_lens (ht := Try.underlying47)); exact rfl) | ((with_reducible apply w_lens (ht := Try.underlying48)); exact rfl) | ((with_reducible apply w_lenstr (ht := Try.underlying9)); exact rfl)))
  (refine sq_nil ?_)
  refine wp_seq (sq_region ?_)
  (repeat (first | ((with_reducible apply w_mv); first | exact (rfl : _ = Value.int _ _) | exact (rfl : _ = Value.bool _) | exact (rfl : _ = Value.slice _ _ _) | exact (rfl : _ = Value.map _) | exact (rfl : _ = Value.pointer _) | exact (rfl : _ = Value.string _) | exact (rfl : _ = Value.tuple _) | exact rfl) | ((with_reducible apply w_as); first | exact (rfl : _ = Value.int _ _) | exact (rfl : _ = Value.bool _) | exact (rfl : _ = Value.slice _ _ _) | exact (rfl : _ = Value.map _) | exact (rfl : _ = Value.pointer _) | exact (rfl : _ = Value.string _) | exact (rfl : _ = Value.tuple _) | exact rfl) | ((with_reducible apply w_ext); exact rfl; exact rfl) | ((with_reducible apply w_not); exact rfl) | ((with_reducible apply w_nc); exact rfl) | ((with_reducible apply w_lss); exact rfl; exact rfl) | ((with_reducible apply w_gtr); exact rfl; exact rfl) | ((with_reducible apply w_geq); exact rfl; exact rfl) | ((with_reducible apply w_eql); exact rfl; exact rfl) | ((with_reducible apply w_neq); exact rfl; exact rfl) | ((with_reducible apply w_seql); exact rfl; exact rfl) | ((with_reducible apply w_sneq); exact rfl; exact rfl) | ((with_reducible apply w_beql (ht := Try.underlying4)); exact rfl; exact rfl) | ((with_reducible apply w_bneq (ht := Try.underlying4)); exact rfl; exact rfl) | ((with_reducible apply w_lens (ht := Try.underlying22)); exact rfl) | ((with_reducible apply w_lens (ht := Try.underlying23)); exact rfl) | ((with_reducible apply w_lens (ht := Try.underlying39)); exact rfl) | ((with_reducible apply w_lens (ht := Try.underlying40)); exact rfl) | ((with_reducible apply w_lens (ht := Try.underlying47)); exact rfl) | ((with_reducible apply w_lens (ht := Try.underlying48)); exact rfl) | ((with_reducible apply w_lenstr (ht := Try.underlying9)); exact rfl)))
  (refine sq_nil ?_)
  refine for8 (fun k f wr => w = wr ∧ f 0 = .string (kn j) ∧ k ≤ j) rfl (by decide) rfl ⟨rfl, rfl, by omega⟩ ?_ ?_ ?_
  · rintro k f f' wr ha ⟨rfl, f0, hle⟩
    exact ⟨rfl, (ha 0 rfl).trans f0, hle⟩
  · rintro k f wr R hk8 fk ⟨rfl, f0, hle⟩ hR hret
    obtain ⟨g, rfl⟩ : ∃ g, f = upd (upd g 0 (.string (kn j))) 3 (.int .i64 (k : Int)) := ⟨f, by rw [← upd_id f0, ← upd_id fk]⟩
    clear f0 fk
    refine sq_region ?_
    (repeat (first | ((with_reducible apply w_mv); first | exact (rfl : _ = Value.int _ _) | exact (rfl : _ = Value.bool _) | exact (rfl : _ = Value.slice _ _ _) | exact (rfl : _ = Value.map _) | exact (rfl : _ = Value.pointer _) | exact (rfl : _ = Value.string _) | exact (rfl : _ = Value.tuple _) | exact rfl) | ((with_reducible apply w_as); first | exact (rfl : _ = Value.int _ _) | exact (rfl : _ = Value.bool _) | exact (rfl : _ = Value.slice _ _ _) | exact (rfl : _ = Value.map _) | exact (rfl : _ = Value.pointer _) | exact (rfl : _ = Value.string _) | exact (rfl : _ = Value.tuple _) | exact rfl) | ((with_reducible apply w_ext); exact rfl; exact rfl) | ((with_reducible apply w_not); exact rfl) | ((with_reducible apply w_nc); exact rfl) | ((with_reducible apply w_lss); exact rfl; exact rfl) | ((with_reducible apply w_gtr); exact rfl; exact rfl) | ((with_reducible apply w_geq); exact rfl; exact rfl) | ((with_reducible apply w_eql); exact rfl; exact rfl) | ((with_reducible apply w_neq); exact rfl; exact rfl) | ((with_reducible apply w_seql); exact rfl; exact rfl) | ((with_reducible apply w_sneq); exact rfl; exact rfl) | ((with_reducible apply w_beql (ht := Try.underlying4)); exact rfl; exact rfl) | ((with_reducible apply w_bneq (ht := Try.underlying4)); exact rfl; exact rfl) | ((with_reducible apply w_lens (ht := Try.underlying22)); exact rfl) | ((with_reducible apply w_lens (ht := Try.underlying23)); exact rfl) | ((with_reducible apply w_lens (ht := Try.underlying39)); exact rfl) | ((with_reducible apply w_lens (ht := Try.underlying40)); exact rfl) | ((with_reducible apply w_lens (ht := Try.underlying47)); exact rfl) | ((with_reducible apply w_lens (ht := Try.underlying48)); exact rfl) | ((with_reducible apply w_lenstr (ht := Try.underlying9)); exact rfl)))
    refine w_call1 ok21 ((keyName_any k hk8 w).mono ?_) rfl
    rintro e w' ⟨rfl, hw⟩
    have hw := hw.symm
    subst hw
    refine ⟨_, rfl, ?_⟩
    (repeat (first | ((with_reducible apply w_mv); first | exact (rfl : _ = Value.int _ _) | exact (rfl : _ = Value.bool _) | exact (rfl : _ = Value.slice _ _ _) | exact (rfl : _ = Value.map _) | exact (rfl : _ = Value.pointer _) | exact (rfl : _ = Value.string _) | exact (rfl : _ = Value.tuple _) | exact rfl) | ((with_reducible apply w_as); first | exact (rfl : _ = Value.int _ _) | exact (rfl : _ = Value.bool _) | exact (rfl : _ = Value.slice _ _ _) | exact (rfl : _ = Value.map _) | exact (rfl : _ = Value.pointer _) | exact (rfl : _ = Value.string _) | exact (rfl : _ = Value.tuple _) | exact rfl) | ((with_reducible apply w_ext); exact rfl; exact rfl) | ((with_reducible apply w_not); exact rfl) | ((with_reducible apply w_nc); exact rfl) | ((with_reducible apply w_lss); exact rfl; exact rfl) | ((with_reducible apply w_gtr); exact rfl; exact rfl) | ((with_reducible apply w_geq); exact rfl; exact rfl) | ((with_reducible apply w_eql); exact rfl; exact rfl) | ((with_reducible apply w_neq); exact rfl; exact rfl) | ((with_reducible apply w_seql); exact rfl; exact rfl) | ((with_reducible apply w_sneq); exact rfl; exact rfl) | ((with_reducible apply w_beql (ht := Try.underlying4)); exact rfl; exact rfl) | ((with_reducible apply w_bneq (ht := Try.underlying4)); exact rfl; exact rfl) | ((with_reducible apply w_lens (ht := Try.underlying22)); exact rfl) | ((with_reducible apply w_lens (ht := Try.underlying23)); exact rfl) | ((with_reducible apply w_lens (ht := Try.underlying39)); exact rfl) | ((with_reducible apply w_lens (ht := Try.underlying40)); exact rfl) | ((with_reducible apply w_lens (ht := Try.underlying47)); exact rfl) | ((with_reducible apply w_lens (ht := Try.underlying48)); exact rfl) | ((with_reducible apply w_lenstr (ht := Try.underlying9)); exact rfl)))
    (refine sq_nil ?_)
    refine cond_s rfl (fun hp => ?_) (fun hp => ?_)
    · have he : k = j := kn_inj' hk8 hj (of_decide_eq_true hp)
      subst he
      refine sq_region ?_
      (repeat (first | ((with_reducible apply w_mv); first | exact (rfl : _ = Value.int _ _) | exact (rfl : _ = Value.bool _) | exact (rfl : _ = Value.slice _ _ _) | exact (rfl : _ = Value.map _) | exact (rfl : _ = Value.pointer _) | exact (rfl : _ = Value.string _) | exact (rfl : _ = Value.tuple _) | exact rfl) | ((with_reducible apply w_as); first | exact (rfl : _ = Value.int _ _) | exact (rfl : _ = Value.bool _) | exact (rfl : _ = Value.slice _ _ _) | exact (rfl : _ = Value.map _) | exact (rfl : _ = Value.pointer _) | exact (rfl : _ = Value.string _) | exact (rfl : _ = Value.tuple _) | exact rfl) | ((with_reducible apply w_ext); exact rfl; exact rfl) | ((with_reducible apply w_not); exact rfl) | ((with_reducible apply w_nc); exact rfl) | ((with_reducible apply w_lss); exact rfl; exact rfl) | ((with_reducible apply w_gtr); exact rfl; exact rfl) | ((with_reducible apply w_geq); exact rfl; exact rfl) | ((with_reducible apply w_eql); exact rfl; exact rfl) | ((with_reducible apply w_neq); exact rfl; exact rfl) | ((with_reducible apply w_seql); exact rfl; exact rfl) | ((with_reducible apply w_sneq); exact rfl; exact rfl) | ((with_reducible apply w_beql (ht := Try.underlying4)); exact rfl; exact rfl) | ((with_reducible apply w_bneq (ht := Try.underlying4)); exact rfl; exact rfl) | ((with_reducible apply w_lens (ht := Try.underlying22)); exact rfl) | ((with_reducible apply w_lens (ht := Try.underlying23)); exact rfl) | ((with_reducible apply w_lens (ht := Try.underlying39)); exact rfl) | ((with_reducible apply w_lens (ht := Try.underlying40)); exact rfl) | ((with_reducible apply w_lens (ht := Try.underlying47)); exact rfl) | ((with_reducible apply w_lens (ht := Try.underlying48)); exact rfl) | ((with_reducible apply w_lenstr (ht := Try.underlying9)); exact rfl)))
      (refine sq_nil ?_)
      exact wp_ret (hret _ _ (xt_ret (leave1 (v := .int _ _) rfl rfl ⟨rfl, rfl⟩)))
    · have hne : k ≠ j := fun e => of_decide_eq_false hp (by rw [e])
      exact wp_skip (hR _ _ rfl ⟨rfl, rfl, by omega⟩)
  · rintro f wr ⟨rfl, f0, hle⟩
    omega
end Go.Proofs.Qxb6600002a
