/-
  runFree: the invariant of the script, with no program in sight.
-/
import Derived.Test.Qxb6600002aOps4
namespace Go.Proofs.Qxb6600002a
set_option linter.unusedSimpArgs false
set_option linter.unusedVariables false

/-- How many of the pending ones name key k. -/
def pcnt (T : Nat → Nat) (l : List Nat) (k : Nat) : Nat := (l.filter fun i => (T i).testBit k).length
/-- .. and were taken before i. -/
def bcnt (T : Nat → Nat) (l : List Nat) (k i : Nat) : Nat := (l.filter fun j => decide (j < i) && (T j).testBit k).length

theorem pcnt_cons (T : Nat → Nat) (l : List Nat) (k i : Nat) : pcnt T (i :: l) k = pcnt T l k + if (T i).testBit k then 1 else 0 := by
  unfold pcnt
  cases h : (T i).testBit k <;> simp [List.filter_cons, h]
theorem pcnt_snoc (T : Nat → Nat) (l : List Nat) (k i : Nat) : pcnt T (l ++ [i]) k = pcnt T l k + if (T i).testBit k then 1 else 0 := by
  unfold pcnt
  rw [List.filter_append, List.length_append]
  cases h : (T i).testBit k <;> simp [List.filter_cons, h]
theorem bcnt_cons (T : Nat → Nat) (l : List Nat) (k i j : Nat) : bcnt T (j :: l) k i = bcnt T l k i + if j < i ∧ (T j).testBit k = true then 1 else 0 := by
  unfold bcnt
  by_cases h1 : j < i <;> cases h : (T j).testBit k <;> simp [List.filter_cons, h, h1]
theorem bcnt_snoc (T : Nat → Nat) (l : List Nat) (k i j : Nat) : bcnt T (l ++ [j]) k i = bcnt T l k i + if j < i ∧ (T j).testBit k = true then 1 else 0 := by
  unfold bcnt
  rw [List.filter_append, List.length_append]
  by_cases h1 : j < i <;> cases h : (T j).testBit k <;> simp [List.filter_cons, h, h1]
theorem pcnt_perm {T : Nat → Nat} {l l' : List Nat} (h : l.Perm l') (k : Nat) : pcnt T l k = pcnt T l' k := (h.filter _).length_eq
theorem bcnt_perm {T : Nat → Nat} {l l' : List Nat} (h : l.Perm l') (k i : Nat) : bcnt T l k i = bcnt T l' k i := (h.filter _).length_eq
theorem bcnt_all {T : Nat → Nat} {l : List Nat} {k n : Nat} (h : ∀ i ∈ l, i < n) : bcnt T l k n = pcnt T l k := by
  unfold bcnt pcnt
  congr 1
  apply List.filter_congr
  intro x hx
  simp [h x hx]
theorem pcnt_pos {T : Nat → Nat} {l : List Nat} {k i : Nat} (hi : i ∈ l) (hb : (T i).testBit k = true) : 0 < pcnt T l k := by
  unfold pcnt
  exact List.length_pos_of_mem (List.mem_filter.2 ⟨hi, hb⟩)
theorem pcnt_le (T : Nat → Nat) (l : List Nat) (k : Nat) : pcnt T l k ≤ l.length := List.length_filter_le _ _

theorem waitOf_le (t : Tl) (n : Nat) : waitOf t n ≤ t.taken := by
  unfold waitOf befOf
  split <;> omega

structure FInv (T : Nat → Nat) (nxt : Nat) (pend : List Nat) (tb : Nat → Nat) (m : List (ByteArray × Tl)) (wl : Nat → List (ByteArray × Nat)) : Prop where
  nodup : pend.Nodup
  plt : ∀ i, i ∈ pend → i < nxt
  pln : pend.length ≤ nxt
  nms : ∀ s t, mget m s = some t → ∃ k, k < 8 ∧ kn k = s
  free : ∀ k, k < 8 → pcnt T pend k = 0 → mget m (kn k) = none
  held : ∀ k, k < 8 → 0 < pcnt T pend k → ∃ t, mget m (kn k) = some t ∧ t.taken = t.applied + pcnt T pend k ∧ t.taken ≤ tb k ∧ t.before < 18446744073709551616
  tbn : ∀ k, k < 8 → tb k ≤ nxt
  keys : ∀ i, i < nxt → KeysAre (wl i) (T i)
  waits : ∀ k, k < 8 → ∀ i, i ∈ pend → (T i).testBit k = true → ∀ t, mget m (kn k) = some t → ∃ n, mget (wl i) (kn k) = some n ∧ n ≤ t.applied + bcnt T pend k i

variable {T : Nat → Nat} {nxt : Nat} {pend : List Nat} {tb : Nat → Nat} {m : List (ByteArray × Tl)} {wl : Nat → List (ByteArray × Nat)}

theorem FInv.start (T : Nat → Nat) : FInv T 0 [] (fun _ => 0) [] (fun _ => []) where
  nodup := List.nodup_nil
  plt := fun i h => by simp at h
  pln := Nat.le_refl _
  nms := fun s t h => by simp [mget] at h
  free := fun k _ _ => rfl
  held := fun k _ h => by simp [pcnt] at h
  tbn := fun k _ => Nat.le_refl _
  keys := fun i h => by omega
  waits := fun k _ i h => by simp at h

theorem FInv.perm (h : FInv T nxt pend tb m wl) {pend' : List Nat} (hp : pend.Perm pend') : FInv T nxt pend' tb m wl where
  nodup := hp.nodup_iff.1 h.nodup
  plt := fun i hi => h.plt i (hp.mem_iff.2 hi)
  pln := by rw [← hp.length_eq]; exact h.pln
  nms := h.nms
  free := fun k hk h0 => h.free k hk (by rw [pcnt_perm hp]; exact h0)
  held := fun k hk h0 => by rw [← pcnt_perm hp]; exact h.held k hk (by rw [pcnt_perm hp]; exact h0)
  tbn := h.tbn
  keys := h.keys
  waits := fun k hk i hi hb t ht => by rw [← bcnt_perm hp]; exact h.waits k hk i (hp.mem_iff.2 hi) hb t ht

theorem FInv.small (h : FInv T nxt pend tb m wl) (hn : nxt ≤ 4096) : Small m := by
  intro s t ht
  obtain ⟨k, hk, rfl⟩ := h.nms s t ht
  rcases Nat.eq_zero_or_pos (pcnt T pend k) with h0 | h0
  · rw [h.free k hk h0] at ht; cases ht
  · obtain ⟨t', h1, h2, h3, h4⟩ := h.held k hk h0
    rw [ht] at h1
    cases h1
    have := h.tbn k hk
    omega

theorem FInv.tally (h : FInv T nxt pend tb m wl) {k : Nat} (hk : k < 8) : (tl m (kn k)).taken = (tl m (kn k)).applied + pcnt T pend k ∧ (tl m (kn k)).taken ≤ tb k ∧ (tl m (kn k)).before < 18446744073709551616 := by
  rcases Nat.eq_zero_or_pos (pcnt T pend k) with h0 | h0
  · have : tl m (kn k) = zT := by unfold tl; rw [h.free k hk h0]; rfl
    rw [this, h0]
    simp [zT]
  · obtain ⟨t', h1, h2, h3, h4⟩ := h.held k hk h0
    have : tl m (kn k) = t' := by unfold tl; rw [h1]; rfl
    rw [this]
    exact ⟨h2, h3, h4⟩

/-- The keys held are those of pending transactions. -/
theorem FInv.holds (h : FInv T nxt pend tb m wl) {k : Nat} (hk : k < 8) : (mget m (kn k)).isSome = decide (0 < pcnt T pend k) := by
  rcases Nat.eq_zero_or_pos (pcnt T pend k) with h0 | h0
  · rw [h.free k hk h0, h0]; rfl
  · obtain ⟨t', h1, _⟩ := h.held k hk h0
    rw [h1, decide_eq_true h0]; rfl

theorem FInv.take (h : FInv T nxt pend tb m wl) {dm wm : List (ByteArray × Nat)} {m' : List (ByteArray × Tl)}
    (hd1 : ∀ k, k < 8 → (T nxt).testBit k = true → ∃ n, mget dm (kn k) = some n ∧ n < 18446744073709551616) (hd2 : ∀ s, mget dm s ≠ none → ∃ k, k < 8 ∧ (T nxt).testBit k = true ∧ kn k = s)
    (hwm : ∀ s, mget wm s = (mget dm s).map fun n => waitOf (tl m s) n) (hm' : ∀ s, mget m' s = match mget dm s with | none => mget m s | some n => some (stepOf (tl m s) n)) :
    FInv T (nxt + 1) (pend ++ [nxt]) (fun k => if (T nxt).testBit k then tb k + 1 else tb k) m' (fun i => if i = nxt then wm else wl i) ∧ KeysAre wm (T nxt) ∧
      ∀ k, k < 8 → (T nxt).testBit k = true → ∃ x, mget wm (kn k) = some x ∧ x ≤ tb k := by
  have hno : ∀ k, k < 8 → (T nxt).testBit k = false → mget dm (kn k) = none := by
    intro k hk hb
    apply Classical.byContradiction
    intro hn
    obtain ⟨k', hk', hb', he⟩ := hd2 _ hn
    have := kn_inj' hk' hk he
    subst this
    rw [hb] at hb'
    cases hb'
  have hkeys : KeysAre wm (T nxt) := by
    intro s
    rw [hwm s]
    constructor
    · intro h1 h2
      obtain ⟨k, hk, hb, rfl⟩ := mem_names.1 h2
      obtain ⟨n, hn, _⟩ := hd1 k hk hb
      rw [hn] at h1
      cases h1
    · intro h1
      cases hx : mget dm s with
      | none => rfl
      | some n =>
        obtain ⟨k, hk, hb, he⟩ := hd2 s (by rw [hx]; simp)
        exact absurd (mem_names.2 ⟨k, hk, hb, he⟩) h1
  have hnp : nxt ∉ pend := fun hx => by have := h.plt nxt hx; omega
  refine ⟨⟨?_, ?_, ?_, ?_, ?_, ?_, ?_, ?_, ?_⟩, hkeys, ?_⟩
  · refine List.nodup_append.2 ⟨h.nodup, by simp, fun a ha b hb => ?_⟩
    simp at hb
    subst hb
    exact fun e => hnp (e ▸ ha)
  · intro i hi
    rcases List.mem_append.1 hi with h1 | h1
    · have := h.plt i h1; omega
    · simp at h1; omega
  · have := h.pln
    simp
    omega
  · intro s t ht
    rw [hm'] at ht
    cases hx : mget dm s with
    | none => rw [hx] at ht; exact h.nms s t ht
    | some n =>
      obtain ⟨k, hk, _, he⟩ := hd2 s (by rw [hx]; simp)
      exact ⟨k, hk, he⟩
  · intro k hk h0
    rw [pcnt_snoc] at h0
    cases hb : (T nxt).testBit k with
    | true => rw [hb] at h0; simp at h0
    | false =>
      rw [hb] at h0
      rw [hm', hno k hk hb]
      exact h.free k hk (by simpa using h0)
  · intro k hk h0
    rw [pcnt_snoc] at h0 ⊢
    cases hb : (T nxt).testBit k with
    | true =>
      obtain ⟨n, hn, hlt⟩ := hd1 k hk hb
      obtain ⟨t1, t2, t3⟩ := h.tally hk
      refine ⟨stepOf (tl m (kn k)) n, by rw [hm', hn], ?_, ?_, ?_⟩
      · simp [stepOf]; omega
      · simp [stepOf]; omega
      · show befOf _ _ < _
        unfold befOf
        split <;> omega
    | false =>
      rw [hb] at h0
      rw [hm', hno k hk hb]
      simpa using h.held k hk (by simpa using h0)
  · intro k hk
    have := h.tbn k hk
    show (if (T nxt).testBit k then tb k + 1 else tb k) ≤ nxt + 1
    split <;> omega
  · intro i hi
    by_cases he : i = nxt
    · subst he
      simpa using hkeys
    · simp only [if_neg he]
      exact h.keys i (by omega)
  · intro k hk i hi hb t ht
    rw [bcnt_snoc]
    rcases List.mem_append.1 hi with h1 | h1
    · have hlt := h.plt i h1
      have hne : i ≠ nxt := by omega
      simp only [if_neg hne]
      rw [if_neg (by omega), Nat.add_zero]
      have hpos := pcnt_pos h1 hb
      obtain ⟨t0, g1, g2, g3, g4⟩ := h.held k hk hpos
      obtain ⟨n, hn, hle⟩ := h.waits k hk i h1 hb t0 g1
      refine ⟨n, hn, ?_⟩
      have : t.applied = t0.applied := by
        rw [hm'] at ht
        cases hx : mget dm (kn k) with
        | none =>
          rw [hx] at ht
          simp only at ht
          rw [g1] at ht
          cases ht
          rfl
        | some n =>
          rw [hx] at ht
          have e : tl m (kn k) = t0 := by unfold tl; rw [g1]; rfl
          rw [e] at ht
          cases ht
          rfl
      omega
    · simp at h1
      subst h1
      simp only [↓reduceIte]
      obtain ⟨n, hn, hlt⟩ := hd1 k hk hb
      refine ⟨waitOf (tl m (kn k)) n, by rw [hwm, hn]; rfl, ?_⟩
      have hw := waitOf_le (tl m (kn k)) n
      obtain ⟨t1, t2, t3⟩ := h.tally hk
      rw [hm', hn] at ht
      cases ht
      have hb2 := bcnt_all (T := T) (k := k) h.plt
      show _ ≤ (tl m (kn k)).applied + _
      omega
  · intro k hk hb
    obtain ⟨n, hn, hlt⟩ := hd1 k hk hb
    refine ⟨waitOf (tl m (kn k)) n, by rw [hwm, hn]; rfl, ?_⟩
    have hw := waitOf_le (tl m (kn k)) n
    obtain ⟨t1, t2, t3⟩ := h.tally hk
    omega

theorem FInv.add {i : Nat} {r : List Nat} (h : FInv T nxt (i :: r) tb m wl) {m' : List (ByteArray × Tl)} (hm' : ∀ s, mget m' s = match mget (wl i) s with | none => mget m s | some _ => addOf (tl m s)) : FInv T nxt r tb m' wl := by
  have hin : ∀ k, k < 8 → (T i).testBit k = true → mget m' (kn k) = addOf (tl m (kn k)) := by
    intro k hk hb
    rw [hm']
    cases hx : mget (wl i) (kn k) with
    | none => exact absurd (mem_names.2 ⟨k, hk, hb, rfl⟩) ((h.keys i (h.plt i (by simp)) _).1 hx)
    | some n => rfl
  have hout : ∀ k, k < 8 → (T i).testBit k = false → mget m' (kn k) = mget m (kn k) := by
    intro k hk hb
    rw [hm']
    have : mget (wl i) (kn k) = none := (h.keys i (h.plt i (by simp)) _).2 (fun hx => by
      obtain ⟨k', hk', hb', he⟩ := mem_names.1 hx
      have := kn_inj' hk' hk he
      subst this
      rw [hb] at hb'
      cases hb')
    rw [this]
  have hnd := List.nodup_cons.1 h.nodup
  refine ⟨hnd.2, fun j hj => h.plt j (by simp [hj]), ?_, ?_, ?_, ?_, h.tbn, h.keys, ?_⟩
  · have := h.pln
    simp at this
    omega
  · intro s t ht
    rw [hm'] at ht
    cases hx : mget (wl i) s with
    | none => rw [hx] at ht; exact h.nms s t ht
    | some n =>
      have hs : s ∈ names (T i) 8 := by
        apply Classical.byContradiction
        intro hn
        rw [(h.keys i (h.plt i (by simp)) s).2 hn] at hx
        cases hx
      obtain ⟨k, hk, _, he⟩ := mem_names.1 hs
      exact ⟨k, hk, he⟩
  · intro k hk h0
    have hpc := pcnt_cons T r k i
    cases hb : (T i).testBit k with
    | false =>
      rw [hb] at hpc
      rw [hout k hk hb]
      exact h.free k hk (by rw [hpc, h0]; rfl)
    | true =>
      rw [hb, h0] at hpc
      obtain ⟨t, h1, h2, h3, h4⟩ := h.held k hk (by rw [hpc]; decide)
      have e : tl m (kn k) = t := by unfold tl; rw [h1]; rfl
      rw [hin k hk hb, e]
      unfold addOf
      rw [if_pos]
      rw [hpc] at h2
      simp at h2
      omega
  · intro k hk h0
    have hpc := pcnt_cons T r k i
    cases hb : (T i).testBit k with
    | false =>
      rw [hb] at hpc
      rw [hout k hk hb]
      have := h.held k hk (by rw [hpc]; simpa using h0)
      rw [hpc] at this
      simpa using this
    | true =>
      rw [hb] at hpc
      obtain ⟨t, h1, h2, h3, h4⟩ := h.held k hk (by rw [hpc]; simp)
      have e : tl m (kn k) = t := by unfold tl; rw [h1]; rfl
      rw [hpc] at h2
      simp at h2
      refine ⟨⟨t.before, t.taken, t.applied + 1⟩, ?_, ?_, h3, h4⟩
      · rw [hin k hk hb, e]
        unfold addOf
        rw [if_neg]
        omega
      · simp
        omega
  · intro k hk j hj hbj t ht
    have hbc := bcnt_cons T r k j i
    have hpos := pcnt_pos (T := T) (k := k) (l := i :: r) (i := j) (by simp [hj]) hbj
    obtain ⟨t0, g1, g2, g3, g4⟩ := h.held k hk hpos
    obtain ⟨n, hn, hle⟩ := h.waits k hk j (by simp [hj]) hbj t0 g1
    refine ⟨n, hn, ?_⟩
    cases hb : (T i).testBit k with
    | false =>
      rw [hout k hk hb, g1] at ht
      cases ht
      rw [hb] at hbc
      simp at hbc
      omega
    | true =>
      have e : tl m (kn k) = t0 := by unfold tl; rw [g1]; rfl
      rw [hin k hk hb, e] at ht
      have hap : t.applied = t0.applied + 1 := by
        unfold addOf at ht
        split at ht
        · cases ht
        · cases ht
          rfl
      have : bcnt T (i :: r) k j ≤ bcnt T r k j + 1 := by
        rw [hbc]
        split <;> omega
      omega

/-- Once every earlier sharer is counted: not held back. -/
theorem FInv.clear (h : FInv T nxt pend tb m wl) {i : Nat} (hi : i ∈ pend) (hc : ∀ j, j ∈ pend → j < i → T j &&& T i = 0) : ∀ s n, mget (wl i) s = some n → n ≤ (tl m s).applied := by
  intro s n hs
  have hin : s ∈ names (T i) 8 := by
    apply Classical.byContradiction
    intro hn
    rw [(h.keys i (h.plt i hi) s).2 hn] at hs
    cases hs
  obtain ⟨k, hk, hb, rfl⟩ := mem_names.1 hin
  obtain ⟨t, g1, _⟩ := h.held k hk (pcnt_pos hi hb)
  obtain ⟨n', hn', hle⟩ := h.waits k hk i hi hb t g1
  rw [hs] at hn'
  cases hn'
  have e : tl m (kn k) = t := by unfold tl; rw [g1]; rfl
  have hz : bcnt T pend k i = 0 := by
    unfold bcnt
    rw [List.length_eq_zero_iff, List.filter_eq_nil_iff]
    intro j hj hx
    simp at hx
    have h1 := hc j hj hx.1
    have h2 : (T j &&& T i).testBit k = true := by rw [Nat.testBit_and, hx.2, hb]; rfl
    rw [h1, Nat.zero_testBit] at h2
    cases h2
  rw [e]
  omega

/-- The keys held, as a list. -/
def heldNames (T : Nat → Nat) (pend : List Nat) (k : Nat) : List ByteArray := ((List.range k).filter fun i => decide (0 < pcnt T pend i)).map kn
theorem heldNames_succ (T : Nat → Nat) (pend : List Nat) (k : Nat) : (heldNames T pend (k + 1)).length = (heldNames T pend k).length + if 0 < pcnt T pend k then 1 else 0 := by
  unfold heldNames
  rw [List.range_succ, List.filter_append]
  by_cases h : 0 < pcnt T pend k <;> simp [h]
theorem heldNames_le (T : Nat → Nat) (pend : List Nat) (k : Nat) : (heldNames T pend k).length ≤ k := by
  unfold heldNames
  have := List.length_filter_le (fun i => decide (0 < pcnt T pend i)) (List.range k)
  simpa using this
theorem FInv.count (h : FInv T nxt pend tb m wl) (hu : Uniq m) : m.length = (heldNames T pend 8).length := by
  refine length_eq_of_names hu ?_ (fun s => ?_)
  · refine nodup_map_of (List.nodup_range.filter _) (fun i hi j hj he => ?_)
    simp at hi hj
    exact kn_inj' hi.1 hj.1 he
  · constructor
    · intro h0 hs
      obtain ⟨i, hi, rfl⟩ := List.mem_map.1 hs
      simp at hi
      have := h.holds hi.1
      rw [h0] at this
      simp [hi.2] at this
    · intro hn
      cases hx : mget m s with
      | none => rfl
      | some t =>
        obtain ⟨k, hk, rfl⟩ := h.nms s t hx
        have := h.holds hk
        rw [hx] at this
        refine absurd (List.mem_map.2 ⟨k, ?_, rfl⟩) hn
        simp at this ⊢
        exact ⟨hk, this⟩
end Go.Proofs.Qxb6600002a
