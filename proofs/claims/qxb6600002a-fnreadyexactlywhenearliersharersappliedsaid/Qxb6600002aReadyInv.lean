/-
  FnReadyExactlyWhenEarlierSharersApplied: the invariant of the script, with no program in sight.
-/
import Derived.Test.Qxb6600002aArr
namespace Go.Proofs.Qxb6600002a
set_option linter.unusedSimpArgs false
set_option linter.unusedVariables false

/-- The transactions below n that name key k, in order. -/
def qs (T : Nat → Nat) (n k : Nat) : List Nat := (List.range n).filter fun i => (T i).testBit k

theorem qs_succ (T : Nat → Nat) (n k : Nat) : qs T (n + 1) k = qs T n k ++ if (T n).testBit k then [n] else [] := by
  unfold qs
  rw [List.range_succ, List.filter_append]
  cases h : (T n).testBit k <;> simp [h]
theorem qs_zero (T : Nat → Nat) (k : Nat) : qs T 0 k = [] := rfl
theorem mem_qs {T : Nat → Nat} {n k i : Nat} : i ∈ qs T n k ↔ i < n ∧ (T i).testBit k = true := by simp [qs]
theorem qs_nodup (T : Nat → Nat) (n k : Nat) : (qs T n k).Nodup := List.nodup_range.filter _
theorem qs_inj {T : Nat → Nat} {n k p p' i : Nat} (h : (qs T n k)[p]? = some i) (h' : (qs T n k)[p']? = some i) : p = p' := by
  have h1 := (List.getElem?_eq_some_iff.1 h).1
  exact (List.getElem?_inj h1 (qs_nodup T n k)).1 (h.trans h'.symm)
theorem qs_len_le (T : Nat → Nat) (n k : Nat) : (qs T n k).length ≤ n := by
  have := List.length_filter_le (fun i => (T i).testBit k) (List.range n)
  simpa [qs] using this

theorem befOf_eq {t : Tl} {n : Nat} (h : t.before + t.taken ≤ n) : befOf t n = n - t.taken := by
  unfold befOf
  split <;> omega
theorem waitOf_eq {t : Tl} {n : Nat} (h : t.before + t.taken ≤ n) : waitOf t n = t.taken := by
  unfold waitOf
  rw [befOf_eq h]
  omega

structure RInv (T : Nat → Nat) (nxt : Nat) (sl bs sc hd : Nat → Nat) (dn : Nat → Bool) (m : List (ByteArray × Tl)) (wl : Nat → List (ByteArray × Nat)) : Prop where
  hdle : ∀ k, k < 8 → hd k ≤ (qs T nxt k).length
  dnlt : ∀ i, dn i = true → i < nxt
  dnq : ∀ k, k < 8 → ∀ p i, (qs T nxt k)[p]? = some i → (dn i = true ↔ p < hd k)
  nms : ∀ s t, mget m s = some t → ∃ k, k < 8 ∧ kn k = s
  free : ∀ k, k < 8 → hd k = (qs T nxt k).length → mget m (kn k) = none
  held : ∀ k, k < 8 → hd k < (qs T nxt k).length → ∃ t, mget m (kn k) = some t ∧ t.taken = t.applied + ((qs T nxt k).length - hd k) ∧ t.before + t.taken ≤ bs (sl k) + sc (sl k) ∧ t.taken ≤ nxt
  keys : ∀ i, i < nxt → KeysAre (wl i) (T i)
  waits : ∀ k, k < 8 → ∀ p i t, (qs T nxt k)[p]? = some i → hd k ≤ p → mget m (kn k) = some t → mget (wl i) (kn k) = some (t.applied + (p - hd k))
  slk : ∀ k, k < 8 → sl k < 8
  bsb : ∀ s, s < 8 → bs s < 4294967296
  scb : ∀ s, s < 8 → sc s ≤ nxt

variable {T : Nat → Nat} {nxt : Nat} {sl bs sc hd : Nat → Nat} {dn : Nat → Bool} {m : List (ByteArray × Tl)} {wl : Nat → List (ByteArray × Nat)}

theorem RInv.start (T sl bs : Nat → Nat) (hsl : ∀ k, k < 8 → sl k < 8) (hbs : ∀ s, s < 8 → bs s < 4294967296) : RInv T 0 sl bs (fun _ => 0) (fun _ => 0) (fun _ => false) [] (fun _ => []) where
  hdle := fun k _ => Nat.zero_le _
  dnlt := fun i h => by cases h
  dnq := fun k _ p i h => by simp [qs_zero] at h
  nms := fun s t h => by simp [mget] at h
  free := fun k _ _ => rfl
  held := fun k _ h => by simp [qs_zero] at h
  keys := fun i h => by omega
  waits := fun k _ p i t h => by simp [qs_zero] at h
  slk := hsl
  bsb := hbs
  scb := fun s _ => Nat.le_refl _

theorem RInv.small (h : RInv T nxt sl bs sc hd dn m wl) (hn : nxt ≤ 4096) : Small m := by
  intro s t ht
  obtain ⟨k, hk, rfl⟩ := h.nms s t ht
  rcases Nat.lt_or_eq_of_le (h.hdle k hk) with hlt | heq
  · obtain ⟨t', h1, h2, h3, h4⟩ := h.held k hk hlt
    rw [ht] at h1
    cases h1
    have := h.bsb _ (h.slk k hk)
    have := h.scb _ (h.slk k hk)
    omega
  · rw [h.free k hk heq] at ht
    cases ht

/-- The tally that a key has, or the zero one. -/
theorem RInv.tally (h : RInv T nxt sl bs sc hd dn m wl) {k : Nat} (hk : k < 8) : (tl m (kn k)).taken = (tl m (kn k)).applied + ((qs T nxt k).length - hd k) ∧ (tl m (kn k)).before + (tl m (kn k)).taken ≤ bs (sl k) + sc (sl k) ∧ (tl m (kn k)).taken ≤ nxt := by
  rcases Nat.lt_or_eq_of_le (h.hdle k hk) with hlt | heq
  · obtain ⟨t', h1, h2, h3, h4⟩ := h.held k hk hlt
    have : tl m (kn k) = t' := by unfold tl; rw [h1]; rfl
    rw [this]
    exact ⟨h2, h3, h4⟩
  · have : tl m (kn k) = zT := by unfold tl; rw [h.free k hk heq]; rfl
    rw [this, heq]
    simp [zT]

theorem RInv.pos (h : RInv T nxt sl bs sc hd dn m wl) {i k : Nat} (hi : i < nxt) (hd0 : dn i = false) (hk : k < 8) (hb : (T i).testBit k = true) : ∃ p, (qs T nxt k)[p]? = some i ∧ hd k ≤ p := by
  obtain ⟨p, hp⟩ := List.getElem?_of_mem (mem_qs.2 ⟨hi, hb⟩)
  refine ⟨p, hp, ?_⟩
  have := h.dnq k hk p i hp
  rw [hd0] at this
  have : ¬ p < hd k := fun h1 => by have := this.2 h1; cases this
  omega

/-- What stands at the head of a queue in which i is pending. -/
theorem RInv.head (h : RInv T nxt sl bs sc hd dn m wl) {i k : Nat} (hi : i < nxt) (hd0 : dn i = false) (hk : k < 8) (hb : (T i).testBit k = true) : ∃ v, (qs T nxt k)[hd k]? = some v := by
  obtain ⟨p, hp, hle⟩ := h.pos hi hd0 hk hb
  have hlt := (List.getElem?_eq_some_iff.1 hp).1
  exact ⟨_, List.getElem?_eq_getElem (by omega)⟩

theorem RInv.wait_of (h : RInv T nxt sl bs sc hd dn m wl) {i k : Nat} (hi : i < nxt) (hd0 : dn i = false) (hk : k < 8) (hb : (T i).testBit k = true) :
    ∃ p t, (qs T nxt k)[p]? = some i ∧ hd k ≤ p ∧ mget m (kn k) = some t ∧ mget (wl i) (kn k) = some (t.applied + (p - hd k)) := by
  obtain ⟨p, hp, hle⟩ := h.pos hi hd0 hk hb
  have hlt := (List.getElem?_eq_some_iff.1 hp).1
  obtain ⟨t, h1, _⟩ := h.held k hk (by omega)
  exact ⟨p, t, hp, hle, h1, h.waits k hk p i t hp hle h1⟩

/-- Not waiting: at the head of all its queues. -/
theorem RInv.ready (h : RInv T nxt sl bs sc hd dn m wl) {i : Nat} (hi : i < nxt) (hd0 : dn i = false) (hw : ∀ s n, mget (wl i) s = some n → n ≤ (tl m s).applied) : ∀ k, k < 8 → (T i).testBit k = true → (qs T nxt k)[hd k]? = some i := by
  intro k hk hb
  obtain ⟨p, t, hp, hle, h1, h2⟩ := h.wait_of hi hd0 hk hb
  have h3 := hw _ _ h2
  have : tl m (kn k) = t := by unfold tl; rw [h1]; rfl
  rw [this] at h3
  have : p = hd k := by omega
  rw [← this]
  exact hp

/-- Waiting: behind another in the queue of the key that is named. -/
theorem RInv.behind (h : RInv T nxt sl bs sc hd dn m wl) {i : Nat} (hi : i < nxt) (hd0 : dn i = false) {s : ByteArray} {n : Nat} (hs : mget (wl i) s = some n) (hlt : (tl m s).applied < n) : ∃ k, k < 8 ∧ (T i).testBit k = true ∧ kn k = s ∧ (qs T nxt k)[hd k]? ≠ some i := by
  have hin : s ∈ names (T i) 8 := by
    apply Classical.byContradiction
    intro hn
    rw [(h.keys i hi s).2 hn] at hs
    cases hs
  obtain ⟨k, hk, hb, rfl⟩ := mem_names.1 hin
  refine ⟨k, hk, hb, rfl, fun he => ?_⟩
  obtain ⟨p, t, hp, hle, h1, h2⟩ := h.wait_of hi hd0 hk hb
  have := qs_inj hp he
  subst this
  rw [hs] at h2
  have e : tl m (kn k) = t := by unfold tl; rw [h1]; rfl
  rw [e] at hlt
  simp at h2
  omega

theorem RInv.take (h : RInv T nxt sl bs sc hd dn m wl) {dm wm : List (ByteArray × Nat)} {m' : List (ByteArray × Tl)} {sc' : Nat → Nat}
    (hd1 : ∀ k, k < 8 → (T nxt).testBit k = true → mget dm (kn k) = some (bs (sl k) + sc (sl k))) (hd2 : ∀ s, mget dm s ≠ none → ∃ k, k < 8 ∧ (T nxt).testBit k = true ∧ kn k = s)
    (hwm : ∀ s, mget wm s = (mget dm s).map fun n => waitOf (tl m s) n) (hm' : ∀ s, mget m' s = match mget dm s with | none => mget m s | some n => some (stepOf (tl m s) n))
    (hs1 : ∀ s, s < 8 → sc s ≤ sc' s ∧ sc' s ≤ sc s + 1) (hs2 : ∀ k, k < 8 → (T nxt).testBit k = true → sc' (sl k) = sc (sl k) + 1) :
    RInv T (nxt + 1) sl bs sc' hd dn m' (fun i => if i = nxt then wm else wl i) ∧ KeysAre wm (T nxt) := by
  have hno : ∀ k, k < 8 → (T nxt).testBit k = false → mget dm (kn k) = none := by
    intro k hk hb
    apply Classical.byContradiction
    intro hn
    obtain ⟨k', hk', hb', he⟩ := hd2 _ hn
    have := kn_inj' hk' hk he
    subst this
    rw [hb] at hb'
    cases hb'
  have hdf : dn nxt = false := by
    cases hx : dn nxt with
    | false => rfl
    | true => have := h.dnlt _ hx; omega
  have hkeys : KeysAre wm (T nxt) := by
    intro s
    rw [hwm s]
    constructor
    · intro h1 h2
      obtain ⟨k, hk, hb, rfl⟩ := mem_names.1 h2
      rw [hd1 k hk hb] at h1
      cases h1
    · intro h1
      cases hx : mget dm s with
      | none => rfl
      | some n =>
        obtain ⟨k, hk, hb, he⟩ := hd2 s (by rw [hx]; simp)
        exact absurd (mem_names.2 ⟨k, hk, hb, he⟩) h1
  -- the queues
  have hq1 : ∀ k, (T nxt).testBit k = true → qs T (nxt + 1) k = qs T nxt k ++ [nxt] := fun k hb => by rw [qs_succ, hb]; rfl
  have hq0 : ∀ k, (T nxt).testBit k = false → qs T (nxt + 1) k = qs T nxt k := fun k hb => by rw [qs_succ, hb]; simp
  have hget : ∀ k p i, (qs T (nxt + 1) k)[p]? = some i → (qs T nxt k)[p]? = some i ∨ ((T nxt).testBit k = true ∧ p = (qs T nxt k).length ∧ i = nxt) := by
    intro k p i hp
    cases hb : (T nxt).testBit k with
    | false => rw [hq0 k hb] at hp; exact Or.inl hp
    | true =>
      rw [hq1 k hb, List.getElem?_append] at hp
      split at hp
      · exact Or.inl hp
      · rename_i hge
        have hpl : p - (qs T nxt k).length = 0 := by
          have := (List.getElem?_eq_some_iff.1 hp).1
          simp at this
          omega
        rw [hpl] at hp
        simp at hp
        exact Or.inr ⟨rfl, by omega, hp.symm⟩
  have hstep : ∀ k, k < 8 → (T nxt).testBit k = true → mget m' (kn k) = some ⟨bs (sl k) + sc (sl k) - (tl m (kn k)).taken, (tl m (kn k)).taken + 1, (tl m (kn k)).applied⟩ := by
    intro k hk hb
    rw [hm', hd1 k hk hb]
    simp only [stepOf]
    rw [befOf_eq (h.tally hk).2.1]
  have hsame : ∀ k, k < 8 → (T nxt).testBit k = false → mget m' (kn k) = mget m (kn k) := by
    intro k hk hb
    rw [hm', hno k hk hb]
  refine ⟨⟨?_, fun i hi => by have := h.dnlt i hi; omega, ?_, ?_, ?_, ?_, ?_, ?_, h.slk, h.bsb, ?_⟩, hkeys⟩
  · intro k hk
    have := h.hdle k hk
    rw [qs_succ, List.length_append]
    omega
  · intro k hk p i hp
    rcases hget k p i hp with h1 | ⟨hb, rfl, rfl⟩
    · exact h.dnq k hk p i h1
    · rw [hdf]
      have := h.hdle k hk
      constructor
      · intro hx; cases hx
      · intro hx; omega
  · intro s t ht
    rw [hm'] at ht
    cases hx : mget dm s with
    | none => rw [hx] at ht; exact h.nms s t ht
    | some n =>
      obtain ⟨k, hk, _, he⟩ := hd2 s (by rw [hx]; simp)
      exact ⟨k, hk, he⟩
  · intro k hk he
    cases hb : (T nxt).testBit k with
    | false =>
      rw [hq0 k hb] at he
      rw [hsame k hk hb]
      exact h.free k hk he
    | true =>
      rw [hq1 k hb, List.length_append] at he
      have := h.hdle k hk
      simp at he
      omega
  · intro k hk hlt
    cases hb : (T nxt).testBit k with
    | false =>
      rw [hq0 k hb] at hlt ⊢
      obtain ⟨t, h1, h2, h3, h4⟩ := h.held k hk hlt
      have := (hs1 _ (h.slk k hk)).1
      exact ⟨t, by rw [hsame k hk hb]; exact h1, h2, by omega, by omega⟩
    | true =>
      have hta := h.tally hk
      have hle := h.hdle k hk
      refine ⟨_, hstep k hk hb, ?_, ?_, ?_⟩
      · rw [hq1 k hb, List.length_append]
        simp
        omega
      · rw [hs2 k hk hb]
        simp
        omega
      · simp
        omega
  · intro i hi
    by_cases he : i = nxt
    · subst he
      simpa using hkeys
    · simp only [if_neg he]
      exact h.keys i (by omega)
  · intro k hk p i t hp hle ht
    rcases hget k p i hp with h1 | ⟨hb, rfl, rfl⟩
    · have hi : i < nxt := (mem_qs.1 (List.mem_of_getElem? h1)).1
      have hlt := (List.getElem?_eq_some_iff.1 h1).1
      obtain ⟨t0, g1, g2, g3, g4⟩ := h.held k hk (by omega)
      have hw := h.waits k hk p i t0 h1 hle g1
      rw [if_neg (by omega), hw]
      have : t.applied = t0.applied := by
        cases hb : (T nxt).testBit k with
        | false =>
          rw [hsame k hk hb, g1] at ht
          cases ht
          rfl
        | true =>
          rw [hstep k hk hb] at ht
          have e : tl m (kn k) = t0 := by unfold tl; rw [g1]; rfl
          rw [e] at ht
          cases ht
          rfl
      rw [this]
    · rw [if_pos rfl, hwm, hd1 k hk hb]
      rw [hstep k hk hb] at ht
      cases ht
      have hta := h.tally hk
      simp only [Option.map_some, Option.some.injEq]
      rw [waitOf_eq hta.2.1]
      exact hta.1
  · intro s hs
    have := h.scb s hs
    have := (hs1 s hs).2
    omega

theorem RInv.add (h : RInv T nxt sl bs sc hd dn m wl) {i : Nat} (hi : i < nxt) (hd0 : dn i = false) (hr : ∀ k, k < 8 → (T i).testBit k = true → (qs T nxt k)[hd k]? = some i) {m' : List (ByteArray × Tl)}
    (hm' : ∀ s, mget m' s = match mget (wl i) s with | none => mget m s | some _ => addOf (tl m s)) :
    RInv T nxt sl bs sc (fun k => if (T i).testBit k then hd k + 1 else hd k) (fun j => if j = i then true else dn j) m' wl := by
  have hin : ∀ k, k < 8 → (T i).testBit k = true → mget m' (kn k) = addOf (tl m (kn k)) := by
    intro k hk hb
    rw [hm']
    cases hx : mget (wl i) (kn k) with
    | none => exact absurd (mem_names.2 ⟨k, hk, hb, rfl⟩) ((h.keys i hi _).1 hx)
    | some n => rfl
  have hout : ∀ k, k < 8 → (T i).testBit k = false → mget m' (kn k) = mget m (kn k) := by
    intro k hk hb
    rw [hm']
    have : mget (wl i) (kn k) = none := (h.keys i hi _).2 (fun hx => by
      obtain ⟨k', hk', hb', he⟩ := mem_names.1 hx
      have := kn_inj' hk' hk he
      subst this
      rw [hb] at hb'
      cases hb')
    rw [this]
  have hheld : ∀ k, k < 8 → (T i).testBit k = true → ∃ t, mget m (kn k) = some t ∧ tl m (kn k) = t ∧ t.taken = t.applied + ((qs T nxt k).length - hd k) ∧ t.before + t.taken ≤ bs (sl k) + sc (sl k) ∧ t.taken ≤ nxt ∧ hd k < (qs T nxt k).length := by
    intro k hk hb
    have hlt := (List.getElem?_eq_some_iff.1 (hr k hk hb)).1
    obtain ⟨t, h1, h2, h3, h4⟩ := h.held k hk hlt
    exact ⟨t, h1, by unfold tl; rw [h1]; rfl, h2, h3, h4, hlt⟩
  refine ⟨?_, ?_, ?_, ?_, ?_, ?_, h.keys, ?_, h.slk, h.bsb, h.scb⟩
  · intro k hk
    try dsimp only
    cases hb : (T i).testBit k with
    | false => simpa using h.hdle k hk
    | true =>
      have := (List.getElem?_eq_some_iff.1 (hr k hk hb)).1
      simp
      omega
  · intro j hj
    try dsimp only at hj
    split at hj
    · subst_vars; exact hi
    · exact h.dnlt j hj
  · intro k hk p j hp
    try dsimp only
    have h0 := h.dnq k hk p j hp
    by_cases hji : j = i
    · subst hji
      have hb : (T j).testBit k = true := (mem_qs.1 (List.mem_of_getElem? hp)).2
      have := qs_inj hp (hr k hk hb)
      simp [hb]
      omega
    · simp only [if_neg hji]
      cases hb : (T i).testBit k with
      | false => simpa using h0
      | true =>
        have hne : p ≠ hd k := fun e => by
          subst e
          rw [hr k hk hb] at hp
          exact hji (by simpa using hp.symm)
        rw [h0]
        simp
        omega
  · intro s t ht
    rw [hm'] at ht
    cases hx : mget (wl i) s with
    | none => rw [hx] at ht; exact h.nms s t ht
    | some n =>
      have hin : s ∈ names (T i) 8 := by
        apply Classical.byContradiction
        intro hn
        rw [(h.keys i hi s).2 hn] at hx
        cases hx
      obtain ⟨k, hk, _, he⟩ := mem_names.1 hin
      exact ⟨k, hk, he⟩
  · intro k hk he
    try dsimp only at he
    cases hb : (T i).testBit k with
    | false =>
      rw [hout k hk hb]
      exact h.free k hk (by simpa [hb] using he)
    | true =>
      obtain ⟨t, h1, h2, h3, h4, h5, h6⟩ := hheld k hk hb
      rw [hin k hk hb, h2]
      unfold addOf
      rw [if_pos]
      simp [hb] at he
      omega
  · intro k hk hlt
    try dsimp only at hlt ⊢
    cases hb : (T i).testBit k with
    | false =>
      rw [hout k hk hb]
      simp only [hb] at hlt
      simpa using h.held k hk (by simpa using hlt)
    | true =>
      obtain ⟨t, h1, h2, h3, h4, h5, h6⟩ := hheld k hk hb
      simp only [hb, if_true] at hlt
      refine ⟨⟨t.before, t.taken, t.applied + 1⟩, ?_, ?_, h4, h5⟩
      · rw [hin k hk hb, h2]
        unfold addOf
        rw [if_neg]
        omega
      · simp
        omega
  · intro k hk p j t hp hle ht
    try dsimp only at hle ⊢
    cases hb : (T i).testBit k with
    | false =>
      rw [hout k hk hb] at ht
      simp only [hb] at hle
      simpa using h.waits k hk p j t hp (by simpa using hle) ht
    | true =>
      obtain ⟨t0, h1, h2, h3, h4, h5, h6⟩ := hheld k hk hb
      simp only [hb, if_true] at hle
      rw [hin k hk hb, h2] at ht
      have hap : t.applied = t0.applied + 1 := by
        unfold addOf at ht
        split at ht
        · cases ht
        · cases ht
          rfl
      rw [h.waits k hk p j t0 hp (by omega) h1, hap]
      simp
      omega
end Go.Proofs.Qxb6600002a
