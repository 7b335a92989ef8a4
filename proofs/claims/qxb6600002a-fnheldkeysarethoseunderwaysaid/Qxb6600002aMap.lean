/-
  A Go map keyed by strings, in the model, as an association list in the order of insertion. Laws of lookup, store, delete, len, range, next, entry.
-/
import Derived.Maps.RangeWalk
import Derived.WalkKit
namespace Go.Proofs.Qxb6600002a
set_option linter.unusedSimpArgs false
set_option linter.unusedVariables false
open Go.MapKept Go.ChangeMaps

/-! ### association lists -/
section
variable {α : Type}

/-- What the list holds at a key. -/
def mget : List (ByteArray × α) → ByteArray → Option α
  | [], _ => none
  | p :: r, k => if p.1 = k then some p.2 else mget r k

/-- A store: in place where the key is there, else at the end. -/
def mput : List (ByteArray × α) → ByteArray → α → List (ByteArray × α)
  | [], k, v => [(k, v)]
  | p :: r, k, v => if p.1 = k then (k, v) :: r else p :: mput r k v

/-- A deletion. -/
def mdel : List (ByteArray × α) → ByteArray → List (ByteArray × α)
  | [], _ => []
  | p :: r, k => if p.1 = k then r else p :: mdel r k

/-- No key twice. -/
def Uniq (m : List (ByteArray × α)) : Prop := (m.map (·.1)).Nodup

theorem mget_none_iff {m : List (ByteArray × α)} {k : ByteArray} : mget m k = none ↔ k ∉ m.map (·.1) := by
  induction m with
  | nil => simp [mget]
  | cons p r ih =>
    simp only [mget, List.map_cons, List.mem_cons, not_or]
    by_cases h : p.1 = k
    · simp [h]
    · simp [h, ih, Ne.symm h]

theorem mget_some_mem {m : List (ByteArray × α)} {k : ByteArray} {v : α} (h : mget m k = some v) : (k, v) ∈ m := by
  induction m with
  | nil => simp [mget] at h
  | cons p r ih =>
    simp only [mget] at h
    by_cases hp : p.1 = k
    · simp [hp] at h
      subst h hp
      simp
    · simp [hp] at h
      exact List.mem_cons_of_mem _ (ih h)

theorem mget_of_mem {m : List (ByteArray × α)} (hu : Uniq m) {p : ByteArray × α} (h : p ∈ m) : mget m p.1 = some p.2 := by
  induction m with
  | nil => simp at h
  | cons q r ih =>
    simp only [Uniq, List.map_cons, List.nodup_cons] at hu
    rcases List.mem_cons.1 h with rfl | h
    · simp [mget]
    · have : q.1 ≠ p.1 := fun e => hu.1 (e ▸ List.mem_map.2 ⟨p, h, rfl⟩)
      simp [mget, this, ih hu.2 h]

theorem mget_mput (m : List (ByteArray × α)) (k : ByteArray) (v : α) (j : ByteArray) : mget (mput m k v) j = if k = j then some v else mget m j := by
  induction m with
  | nil => simp [mput, mget]
  | cons p r ih =>
    simp only [mput]
    by_cases h : p.1 = k
    · simp only [if_pos h, mget]
      by_cases hj : k = j
      · simp [hj]
      · have : ¬ p.1 = j := fun e => hj (h.symm.trans e)
        simp [hj, this]
    · simp only [if_neg h, mget, ih]
      by_cases hpj : p.1 = j
      · have : ¬ k = j := fun e => h (hpj.trans e.symm)
        simp [hpj, this]
      · simp [hpj]

theorem keys_mput_of_some {m : List (ByteArray × α)} {k : ByteArray} {v u : α} (h : mget m k = some u) : (mput m k v).map (·.1) = m.map (·.1) := by
  induction m with
  | nil => simp [mget] at h
  | cons p r ih =>
    simp only [mget] at h
    simp only [mput]
    by_cases hp : p.1 = k
    · simp [hp]
    · simp [hp] at h ⊢
      simpa using ih h

theorem mput_of_none {m : List (ByteArray × α)} {k : ByteArray} {v : α} (h : mget m k = none) : mput m k v = m ++ [(k, v)] := by
  induction m with
  | nil => simp [mput]
  | cons p r ih =>
    simp only [mget] at h
    simp only [mput]
    by_cases hp : p.1 = k
    · simp [hp] at h
    · simp [hp] at h ⊢
      exact ih h

theorem Uniq.put {m : List (ByteArray × α)} (hu : Uniq m) (k : ByteArray) (v : α) : Uniq (mput m k v) := by
  unfold Uniq at *
  cases h : mget m k with
  | none =>
    rw [mput_of_none h]
    rw [mget_none_iff] at h
    simp only [List.map_append, List.map_cons, List.map_nil]
    refine List.nodup_append.2 ⟨hu, by simp, fun a ha b hb => ?_⟩
    simp at hb
    subst hb
    exact fun e => h (e ▸ ha)
  | some u => rw [keys_mput_of_some h]; exact hu

theorem mdel_sublist (m : List (ByteArray × α)) (k : ByteArray) : (mdel m k).Sublist m := by
  induction m with
  | nil => simp [mdel]
  | cons p r ih =>
    simp only [mdel]
    split
    · exact List.sublist_cons_self _ _
    · exact ih.cons_cons _

theorem Uniq.del {m : List (ByteArray × α)} (hu : Uniq m) (k : ByteArray) : Uniq (mdel m k) := ((mdel_sublist m k).map _).nodup hu

theorem mget_mdel {m : List (ByteArray × α)} (hu : Uniq m) (k j : ByteArray) : mget (mdel m k) j = if k = j then none else mget m j := by
  induction m with
  | nil => simp [mdel, mget]
  | cons p r ih =>
    simp only [Uniq, List.map_cons, List.nodup_cons] at hu
    simp only [mdel]
    by_cases h : p.1 = k
    · simp only [if_pos h, mget]
      by_cases hj : k = j
      · simp only [if_pos hj]
        rw [mget_none_iff, ← hj, ← h]
        exact hu.1
      · have : ¬ p.1 = j := fun e => hj (h.symm.trans e)
        simp [hj, this]
    · simp only [if_neg h, mget, ih hu.2]
      by_cases hpj : p.1 = j
      · have : ¬ k = j := fun e => h (hpj.trans e.symm)
        simp [hpj, this]
      · simp [hpj]

theorem mdel_of_none {m : List (ByteArray × α)} {k : ByteArray} (h : mget m k = none) : mdel m k = m := by
  induction m with
  | nil => simp [mdel]
  | cons p r ih =>
    simp only [mget] at h
    simp only [mdel]
    by_cases hp : p.1 = k
    · simp [hp] at h
    · simp [hp] at h ⊢
      exact ih h

/-- Two lists without double keys, with the same keys, are of one length. -/
theorem length_eq_of_keys {β : Type} {m : List (ByteArray × α)} {m' : List (ByteArray × β)} (hu : Uniq m) (hu' : Uniq m') (h : ∀ k, mget m k = none ↔ mget m' k = none) : m.length = m'.length := by
  have hp : (m.map (·.1)).Perm (m'.map (·.1)) := by
    rw [List.perm_ext_iff_of_nodup hu hu']
    intro a
    have := h a
    rw [mget_none_iff, mget_none_iff] at this
    constructor
    · intro ha; exact Classical.byContradiction fun hn => (this.2 hn) ha
    · intro ha; exact Classical.byContradiction fun hn => (this.1 hn) ha
  have := hp.length_eq
  simpa using this

/-- A list without double keys whose keys are those of a list without doubles. -/
theorem length_eq_of_names {m : List (ByteArray × α)} (hu : Uniq m) {l : List ByteArray} (hl : l.Nodup) (h : ∀ k, mget m k = none ↔ k ∉ l) : m.length = l.length := by
  have hp : (m.map (·.1)).Perm l := by
    rw [List.perm_ext_iff_of_nodup hu hl]
    intro a
    have := h a
    rw [mget_none_iff] at this
    constructor
    · intro ha; exact Classical.byContradiction fun hn => (this.2 hn) ha
    · intro ha; exact Classical.byContradiction fun hn => (this.1 hn) ha
  have := hp.length_eq
  simpa using this
end

/-! ### a map's block -/
section
variable {α : Type} {enc : α → Value} {w : World} {b : Nat} {m : List (ByteArray × α)} {P : Program}

/-- An entry as the list has it. -/
def entryOf (enc : α → Value) (p : ByteArray × α) : Value × Value := (.string p.1, enc p.2)

/-- BLOCK b OF w IS A MAP THAT HOLDS THE ENTRIES m, in the order of insertion. -/
def MapAt (enc : α → Value) (w : World) (b : Nat) (m : List (ByteArray × α)) : Prop :=
  ∃ es clock, w.heap[b]? = some (.map es clock) ∧ es.toList.map (fun e => (e.key, e.val)) = m.map (entryOf enc) ∧ Stamped es clock ∧ Uniq m

theorem MapAt.uniq (h : MapAt enc w b m) : Uniq m := by
  obtain ⟨_, _, _, _, _, hu⟩ := h
  exact hu

theorem MapAt.lt (h : MapAt enc w b m) : b < w.heap.size := by
  obtain ⟨es, clock, hb, _⟩ := h
  exact (Array.getElem?_eq_some_iff.1 hb).1

theorem MapAt.of_block {w' : World} (h : MapAt enc w b m) (he : w'.heap[b]? = w.heap[b]?) : MapAt enc w' b m := by
  obtain ⟨es, clock, hb, rest⟩ := h
  exact ⟨es, clock, he.trans hb, rest⟩

theorem MapAt.made (enc : α → Value) (w : World) : MapAt enc (w.alloc (.map #[] 0)) w.heap.size [] :=
  ⟨#[], 0, (heap_alloc w _).1, by simp, stamped_empty 0, by simp [Uniq]⟩

theorem isKey_of_list {es : List MapEntry} {m : List (ByteArray × α)} (h : es.map (fun e => (e.key, e.val)) = m.map (entryOf enc)) : ∀ x ∈ es, IsKey .string x.key := by
  intro x hx
  have : (x.key, x.val) ∈ es.map (fun e => (e.key, e.val)) := List.mem_map.2 ⟨x, hx, rfl⟩
  rw [h] at this
  obtain ⟨p, _, hp⟩ := List.mem_map.1 this
  simp only [entryOf, Prod.mk.injEq] at hp
  rw [← hp.1]
  trivial

/-- What the search gives, in the list's words. -/
theorem find_list (s : ByteArray) : ∀ (es : List MapEntry) (m : List (ByteArray × α)) (i : Nat), es.map (fun e => (e.key, e.val)) = m.map (entryOf enc) →
    (mget m s = none ∧ Instr.findNow .string (.string s) es i = some none) ∨
    ∃ j v, mget m s = some v ∧ Instr.findNow .string (.string s) es i = some (some (i + j, enc v)) ∧ j < es.length ∧ (es[j]?).map (·.key) = some (.string s) ∧
      (∀ v', (es.modify j fun e => { e with key := .string s, val := enc v' }).map (fun e => (e.key, e.val)) = (mput m s v').map (entryOf enc)) ∧
      (es.eraseIdx j).map (fun e => (e.key, e.val)) = (mdel m s).map (entryOf enc)
  | [], [], i, _ => Or.inl ⟨rfl, rfl⟩
  | [], _ :: _, _, h => by simp at h
  | _ :: _, [], _, h => by simp at h
  | e :: es, p :: m, i, h => by
    simp only [List.map_cons, List.cons.injEq] at h
    obtain ⟨he, ht⟩ := h
    simp only [entryOf, Prod.mk.injEq] at he
    obtain ⟨hk, hv⟩ := he
    by_cases hp : p.1 = s
    · right
      refine ⟨0, p.2, by simp [mget, hp], ?_, by simp, by simp [hk, hp], fun v' => ?_, ?_⟩
      · have : Instr.sameNow .string (.string s) e.key = some true := by
          rw [hk, hp]; simp [Instr.sameNow, bytes_beq]
        simp [Instr.findNow, this, hv]
      · simp [mput, hp, ht, entryOf]
      · simp [mdel, hp, ht]
    · have hs : Instr.sameNow .string (.string s) e.key = some false := by
        rw [hk]
        simp only [Instr.sameNow, Option.some.injEq]
        cases hb : (s == p.1) with
        | false => rfl
        | true => exact absurd ((bytes_beq _ _).1 hb).symm hp
      rcases find_list s es m (i + 1) ht with ⟨h1, h2⟩ | ⟨j, v, h1, h2, h3, h4, h5, h6⟩
      · exact Or.inl ⟨by simp [mget, hp, h1], by simp [Instr.findNow, hs, h2]⟩
      · right
        refine ⟨j + 1, v, by simp [mget, hp, h1], by simp [Instr.findNow, hs, h2]; omega, by simp; omega, by simpa using h4, fun v' => ?_, ?_⟩
        · simp only [List.modify_succ_cons, List.map_cons, mput, if_neg hp, h5 v']
          simp [entryOf, hk, hv]
        · simp only [List.eraseIdx_cons_succ, List.map_cons, mdel, if_neg hp, h6]
          simp [entryOf, hk, hv]

/-- 'm[k]'. -/
theorem MapAt.lookup {t k e : TypeId} (h : MapAt enc w b m) (ht : P.underlying t = some (.map k e)) (hk : P.underlying k = some .string) {z : α} (hz : (zeroValue e).run P w = .ok (enc z) w) (s : ByteArray) (c : Bool) :
    (Instr.lookup t (.map (some b)) (.string s) c).run P w = .ok (if c then .tuple #[enc ((mget m s).getD z), .bool (mget m s).isSome] else enc ((mget m s).getD z)) w := by
  obtain ⟨es, clock, hb, hl, hst, hu⟩ := h
  have hck := fun e => run_checkKey (P := P) (w := w) hk (d := .string) (k := .string s) trivial e 9999
  rcases find_list s es.toList m 0 hl with ⟨h1, h2⟩ | ⟨j, v, h1, h2, _⟩
  · have hf := run_findKey (P := P) (w := w) hk h2
    cases c <;> simp [Instr.lookup, run_underlying ht, MapKept.run_getObj_map hb, hck, hf, hz, h1, Result.andThen]
  · have hf := run_findKey (P := P) (w := w) hk h2
    cases c <;> simp [Instr.lookup, run_underlying ht, MapKept.run_getObj_map hb, hck, hf, h1, Result.andThen]

/-- Of a nil map. -/
theorem lookup_nil {t k e : TypeId} (ht : P.underlying t = some (.map k e)) (hk : P.underlying k = some .string) {z : Value} (hz : (zeroValue e).run P w = .ok z w) (s : ByteArray) (c : Bool) :
    (Instr.lookup t (.map none) (.string s) c).run P w = .ok (if c then .tuple #[z, .bool false] else z) w := by
  have hck := fun e => run_checkKey (P := P) (w := w) hk (d := .string) (k := .string s) trivial e 9999
  have hf := run_findKey (P := P) (w := w) (l := []) (k := .string s) (a := none) hk rfl
  cases c <;> simp [Instr.lookup, run_underlying ht, hck, hf, hz, Result.andThen]

/-- 'm[k] = v'. -/
theorem MapAt.update {t k e : TypeId} (h : MapAt enc w b m) (ht : P.underlying t = some (.map k e)) (hk : P.underlying k = some .string) (s : ByteArray) (v : α) :
    ∃ w', (Instr.mapUpdate t (.map (some b)) (.string s) (enc v)).run P w = .ok () w' ∧ MapAt enc w' b (mput m s v) ∧ w.grownBy w' (some b) ∧ w'.heap.size = w.heap.size := by
  obtain ⟨es, clock, hb, hl, hst, hu⟩ := h
  have hck := fun e => run_checkKey (P := P) (w := w) hk (d := .string) (k := .string s) trivial e 9999
  have hgr : ∀ o, w.grownBy (setBlock w b o) (some b) := fun o => ⟨rfl, rfl, rfl, by simp [setBlock], fun i _ hi => heap_setBlock_other hb _ (fun e => hi (by rw [e]))⟩
  have hkeys := isKey_of_list hl
  rcases find_list s es.toList m 0 hl with ⟨h1, h2⟩ | ⟨j, v0, h1, h2, h3, h4, h5, _⟩
  · have hf := run_findKey (P := P) (w := w) hk h2
    have hno : ∀ x ∈ es.toList, x.key ≠ .string s := by
      intro x hx e1
      have : (x.key, x.val) ∈ es.toList.map (fun e => (e.key, e.val)) := List.mem_map.2 ⟨x, hx, rfl⟩
      rw [hl] at this
      obtain ⟨p, hp, hpe⟩ := List.mem_map.1 this
      simp only [entryOf, Prod.mk.injEq] at hpe
      rw [e1] at hpe
      have e2 : p.1 = s := by simpa using hpe.1
      exact (mget_none_iff.1 h1) (List.mem_map.2 ⟨p, hp, e2⟩)
    refine ⟨setBlock w b (.map (es.push { key := .string s, val := enc v, born := clock }) (clock + 1)), ?_, ⟨_, _, heap_setBlock_same hb _, ?_, stamped_push hst hno, hu.put s v⟩, hgr _, by simp [setBlock]⟩
    · simp [Instr.mapUpdate, run_underlying ht, MapKept.run_getObj_map hb, hck, hf, MapKept.run_setObj_map _ hb, Result.andThen, setBlock]
    · rw [mput_of_none h1]
      simp [hl, entryOf]
  · have hf := run_findKey (P := P) (w := w) hk h2
    have hj : (es[j]?).map (·.key) = some (.string s) := by simpa using h4
    obtain ⟨e0, he0, hek⟩ : ∃ e0, es[j]? = some e0 ∧ e0.key = .string s := by
      cases hx : es[j]? with
      | none => simp [hx] at hj
      | some e0 => exact ⟨e0, rfl, by simpa [hx] using hj⟩
    have hstay := run_keyThatStays (P := P) (w := w) (d := .string) (k := .string s) trivial
    refine ⟨setBlock w b (.map (es.modify j fun e => { e with key := .string s, val := enc v }) clock), ?_, ⟨_, _, heap_setBlock_same hb _, ?_, ?_, hu.put s v⟩, hgr _, by simp [setBlock]⟩
    · simp [Instr.mapUpdate, run_underlying ht, MapKept.run_getObj_map hb, hck, hf, he0, hek, hstay, MapKept.run_setObj_map _ hb, Result.andThen, setBlock]
    · rw [Array.toList_modify]
      exact h5 v
    · refine stamped_modify hst j _ (fun _ _ => rfl) (fun e _ he => ?_)
      rw [he0] at he
      cases he
      exact hek.symm

/-- 'delete(m, k)'. -/
theorem MapAt.drop {t k e ty : TypeId} (h : MapAt enc w b m) (ht : P.underlying t = some (.map k e)) (hk : P.underlying k = some .string) (s : ByteArray) :
    ∃ w', (Builtin.delete_ #[t, k] ty #[.map (some b), .string s]).run P w = .ok (.tuple #[]) w' ∧ MapAt enc w' b (mdel m s) ∧ w.grownBy w' (some b) ∧ w'.heap.size = w.heap.size := by
  obtain ⟨es, clock, hb, hl, hst, hu⟩ := h
  have hck := fun e => run_checkKey (P := P) (w := w) hk (d := .string) (k := .string s) trivial e 9999
  have hgr : ∀ o, w.grownBy (setBlock w b o) (some b) := fun o => ⟨rfl, rfl, rfl, by simp [setBlock], fun i _ hi => heap_setBlock_other hb _ (fun e => hi (by rw [e]))⟩
  rcases find_list s es.toList m 0 hl with ⟨h1, h2⟩ | ⟨j, v0, h1, h2, h3, h4, _, h6⟩
  · have hf := run_findKey (P := P) (w := w) hk h2
    refine ⟨setBlock w b (.map es clock), ?_, ⟨es, clock, heap_setBlock_same hb _, by rw [mdel_of_none h1]; exact hl, hst, hu.del s⟩, hgr _, by simp [setBlock]⟩
    simp [Builtin.delete_, run_underlying ht, MapKept.run_getObj_map hb, hck, hf, MapKept.run_setObj_map _ hb, Result.andThen, setBlock]
  · have hf := run_findKey (P := P) (w := w) hk h2
    have hjs : j < es.size := by simpa using h3
    have hsub : (es.eraseIdxIfInBounds j).toList = es.toList.eraseIdx j := by
      unfold Array.eraseIdxIfInBounds
      rw [dif_pos hjs]
      simp
    refine ⟨setBlock w b (.map (es.eraseIdxIfInBounds j) clock), ?_, ⟨_, clock, heap_setBlock_same hb _, by rw [hsub]; exact h6, stamped_erase hst j, hu.del s⟩, hgr _, by simp [setBlock]⟩
    simp [Builtin.delete_, run_underlying ht, MapKept.run_getObj_map hb, hck, hf, MapKept.run_setObj_map _ hb, Result.andThen, setBlock]

/-- 'len(m)'. -/
theorem MapAt.len {t k e ty : TypeId} (h : MapAt enc w b m) (ht : P.underlying t = some (.map k e)) : (Builtin.len_ #[t] ty #[.map (some b)]).run P w = .ok (.int .i64 m.length) w := by
  obtain ⟨es, clock, hb, hl, _⟩ := h
  have : es.size = m.length := by
    have := congrArg List.length hl
    simpa using this
  simp [Builtin.len_, run_underlying ht, MapKept.run_getObj_map hb, Result.andThen, goInt, this]

/-! ### ranging over a map that the round does not write -/

/-- 'for k, v := range m' under way: block r is an iterator over block b; the entries 'left' are still to come. -/
def RangeAt (enc : α → Value) (w : World) (b r : Nat) (m left : List (ByteArray × α)) : Prop :=
  ∃ es clock seen, w.heap[b]? = some (.map es clock) ∧ es.toList.map (fun e => (e.key, e.val)) = m.map (entryOf enc) ∧ Stamped es clock ∧ Uniq m ∧
    w.heap[r]? = some (.mapIter (some b) clock seen clock) ∧ (leftOf es seen).toList.map (fun e => (e.key, e.val)) = left.map (entryOf enc) ∧ left.Sublist m

theorem RangeAt.map {r : Nat} {left : List (ByteArray × α)} (h : RangeAt enc w b r m left) : MapAt enc w b m := by
  obtain ⟨es, clock, seen, hb, hl, hst, hu, _⟩ := h
  exact ⟨es, clock, hb, hl, hst, hu⟩

theorem RangeAt.lt {r : Nat} {left : List (ByteArray × α)} (h : RangeAt enc w b r m left) : r < w.heap.size := by
  obtain ⟨es, clock, seen, _, _, _, _, hr, _⟩ := h
  exact (Array.getElem?_eq_some_iff.1 hr).1

theorem RangeAt.ne {r : Nat} {left : List (ByteArray × α)} (h : RangeAt enc w b r m left) : r ≠ b := by
  obtain ⟨es, clock, seen, hb, _, _, _, hr, _⟩ := h
  intro e
  rw [e, hb] at hr
  cases hr

theorem RangeAt.sub {r : Nat} {left : List (ByteArray × α)} (h : RangeAt enc w b r m left) : left.Sublist m := by
  obtain ⟨es, clock, seen, _, _, _, _, _, _, hs⟩ := h
  exact hs

theorem RangeAt.of_blocks {r : Nat} {left : List (ByteArray × α)} {w' : World} (h : RangeAt enc w b r m left) (he : w'.heap[b]? = w.heap[b]?) (hr' : w'.heap[r]? = w.heap[r]?) : RangeAt enc w' b r m left := by
  obtain ⟨es, clock, seen, hb, h1, h2, h3, hr, rest⟩ := h
  exact ⟨es, clock, seen, he.trans hb, h1, h2, h3, hr'.trans hr, rest⟩

/-- 'range m'. -/
theorem MapAt.range {t k e : TypeId} (h : MapAt enc w b m) (ht : P.underlying t = some (.map k e)) :
    ∃ o, (Instr.range t (.map (some b))).run P w = .ok (.pointer (some ⟨w.heap.size, 0, none⟩)) (w.alloc o) ∧ RangeAt enc (w.alloc o) b w.heap.size m m := by
  have hlt := h.lt
  obtain ⟨es, clock, hb, hl, hst, hu⟩ := h
  refine ⟨_, run_range_map w t k e b es clock ht hb, ⟨es, clock, #[], ((heap_alloc w _).2 b hlt).trans hb, hl, hst, hu, (heap_alloc w _).1, ?_, List.Sublist.refl _⟩⟩
  have e1 : (leftOf es #[]).toList = es.toList := by
    unfold leftOf
    rw [Array.toList_filter]
    exact List.filter_eq_self.2 (fun x _ => by simp)
  rw [e1]
  exact hl

theorem filter_list {L : List MapEntry} {e : MapEntry} {s : ByteArray} (hes : e.key = .string s) : ∀ (L : List MapEntry) (left : List (ByteArray × α)), L.map (fun e => (e.key, e.val)) = left.map (entryOf enc) →
    (∀ x ∈ L, (x.born == e.born) = true ↔ x.key = e.key) →
    (L.filter fun x => !(x.born == e.born)).map (fun e => (e.key, e.val)) = (left.filter fun q => !decide (q.1 = s)).map (entryOf enc)
  | [], [], _, _ => rfl
  | [], _ :: _, h, _ => by simp at h
  | _ :: _, [], h, _ => by simp at h
  | x :: L, q :: left, h, hiff => by
    simp only [List.map_cons, List.cons.injEq] at h
    obtain ⟨hx, ht⟩ := h
    simp only [entryOf, Prod.mk.injEq] at hx
    have hi := hiff x (by simp)
    have ih := filter_list (L := L) hes L left ht (fun y hy => hiff y (by simp [hy]))
    rw [hx.1, hes] at hi
    by_cases hq : q.1 = s
    · have hb : (x.born == e.born) = true := hi.2 (by rw [hq])
      simp [hb, hq]
      simpa using ih
    · have hb : (x.born == e.born) = false := by
        cases hc : (x.born == e.born) with
        | false => rfl
        | true => exact absurd (by simpa using hi.1 hc) hq
      simp only [List.filter_cons, hb, hq, decide_false, Bool.not_false, if_true, List.map_cons, entryOf, hx.1, hx.2]
      simpa using ih

/-- THE STEP: nothing is left; or SOME entry that is left comes out, whichever the tape says. -/
theorem RangeAt.next {r : Nat} {left : List (ByteArray × α)} (h : RangeAt enc w b r m left) (ty : TypeId) :
    (left = [] ∧ (Instr.next (.pointer (some ⟨r, 0, none⟩)) false ty).run P w = .ok (.tuple #[.bool false]) w) ∨
    ∃ s v w', (s, v) ∈ left ∧ (Instr.next (.pointer (some ⟨r, 0, none⟩)) false ty).run P w = .ok (.tuple #[.bool true, .string s, enc v]) w' ∧
      RangeAt enc w' b r m (left.filter fun q => !decide (q.1 = s)) ∧ w.grownBy w' (some r) ∧ w'.heap.size = w.heap.size ∧
      (Instr.entry (.pointer (some ⟨r, 0, none⟩))).run P w' = .ok (.tuple #[.string s, enc v]) w' := by
  have hne := h.ne
  obtain ⟨es, clock, seen, hb, hl, hst, hu, hr, hleft, hsub⟩ := h
  have hst2 := (stamped_iff es clock).1 hst
  rcases run_next_at (P := P) w ty r b clock clock seen es clock hr hb hst.1 (Nat.le_refl _) with ⟨h0, hrun⟩ | ⟨e, he, w1, hw1, hrun⟩
  · left
    refine ⟨?_, hrun⟩
    have : (left.map (entryOf enc)).length = 0 := by rw [← hleft]; simpa using h0
    simpa using this
  · right
    have hmem : (e.key, e.val) ∈ left.map (entryOf enc) := by rw [← hleft]; exact List.mem_map.2 ⟨e, he, rfl⟩
    obtain ⟨⟨s, v⟩, hp, hpe⟩ := List.mem_map.1 hmem
    simp only [entryOf, Prod.mk.injEq] at hpe
    have hees : e ∈ es.toList := by
      unfold leftOf at he
      simp at he
      simpa using he.1
    have heap1 : w1.heap = w.heap := by rcases hw1 with rfl | rfl <;> rfl
    have hr1 : w1.heap[r]? = some (.mapIter (some b) clock seen clock) := by rw [heap1]; exact hr
    have hrlt : r < w1.heap.size := (Array.getElem?_eq_some_iff.1 hr1).1
    have hsame : (setBlock w1 r (.mapIter (some b) clock (seen.push e.born) clock)).heap[r]? = some (.mapIter (some b) clock (seen.push e.born) clock) := by simp [setBlock, hrlt]
    have hoth : ∀ i, i ≠ r → (setBlock w1 r (.mapIter (some b) clock (seen.push e.born) clock)).heap[i]? = w.heap[i]? := fun i hi => by simp [setBlock, Ne.symm hi, heap1]
    have hb1 : (setBlock w1 r (.mapIter (some b) clock (seen.push e.born) clock)).heap[b]? = some (.map es clock) := (hoth b (Ne.symm hne)).trans hb
    refine ⟨s, v, _, hp, by rw [hrun, ← hpe.1, ← hpe.2], ⟨es, clock, seen.push e.born, hb1, hl, hst, hu, hsame, ?_, (List.filter_sublist).trans hsub⟩, ⟨?_, ?_, ?_, ?_, fun i _ hi => hoth i (fun e1 => hi (by rw [e1]))⟩, ?_, ?_⟩
    · have e1 : (leftOf es (seen.push e.born)).toList = (leftOf es seen).toList.filter (fun x => !(x.born == e.born)) := by
        unfold leftOf
        simp only [Array.toList_filter, List.filter_filter]
        apply List.filter_congr
        intro x _
        simp only [Array.contains_push]
        cases hc : seen.contains x.born <;> cases hd : (x.born == e.born) <;> simp_all
      rw [e1]
      refine filter_list (L := []) hpe.1.symm _ left hleft (fun x hx => ?_)
      have hxes : x ∈ es.toList := by
        unfold leftOf at hx
        simp at hx
        simpa using hx.1
      constructor
      · intro hbn
        have := born_inj hst2.2.1 hxes hees (by simpa using hbn)
        rw [this]
      · intro hk
        have := entry_eq_of_key hst2.2.2 hxes hees hk
        rw [this]
        simp
    · rcases hw1 with rfl | rfl <;> rfl
    · rcases hw1 with rfl | rfl <;> rfl
    · rcases hw1 with rfl | rfl <;> rfl
    · simp [setBlock, heap1]
    · simp [setBlock, heap1]
    · rw [run_entry_at _ r b clock seen es clock e hsame hb1 hees hst2.2.1, ← hpe.1, ← hpe.2]

end
end Go.Proofs.Qxb6600002a
