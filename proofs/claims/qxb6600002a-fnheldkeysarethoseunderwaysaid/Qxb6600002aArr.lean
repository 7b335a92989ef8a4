/-
  Arrays in memory as functions; slices of ints that grow; whole arrays loaded.
-/
import Derived.Test.Qxb6600002aKeys
import Derived.Maps.AppendAt
namespace Go.Proofs.Qxb6600002a
set_option linter.unusedSimpArgs false
set_option linter.unusedVariables false
open Go.MapKept Go.ChangeMaps Go.RowKit

/-! ### a row of cells as a function -/
def arr (n : Nat) (F : Nat → Value) : Array Value := ((List.range n).map F).toArray
theorem arr_size (n : Nat) (F : Nat → Value) : (arr n F).size = n := by simp [arr]
theorem arr_get {n k : Nat} (F : Nat → Value) (h : k < n) : (arr n F)[k]? = some (F k) := by simp [arr, h]
theorem arr_set (n k : Nat) (F : Nat → Value) (v : Value) : (arr n F).setIfInBounds k v = arr n (fun j => if j = k then v else F j) := by
  apply Array.ext'
  simp only [arr, Array.toList_setIfInBounds]
  apply List.ext_getElem?
  intro i
  simp only [List.getElem?_set, List.length_map, List.length_range, List.getElem?_map]
  by_cases hk : k = i
  · subst hk
    by_cases hn : k < n
    · simp [hn]
    · simp [hn]
  · simp only [if_neg hk]
    by_cases hn : i < n
    · simp [hn, Ne.symm hk]
    · simp [hn]
theorem arr_congr {n : Nat} {F G : Nat → Value} (h : ∀ k, k < n → F k = G k) : arr n F = arr n G := by
  unfold arr
  congr 1
  apply List.map_congr_left
  intro a ha
  exact h a (by simpa using ha)
theorem made_arr (z : Value) (hz : z.cells = #[z]) (n : Nat) : madeCells z.cells n = arr n (fun _ => z) := by
  rw [hz]
  apply Array.ext'
  simp only [madeCells, arr]
  apply List.ext_getElem?
  intro i
  by_cases hn : i < n
  · simp [hn, Nat.mod_one]
  · simp [hn]

/-- A block of w that is a row of n cells. -/
def Arr (w : World) (b n : Nat) (e : TypeId) (F : Nat → Value) : Prop := w.heap[b]? = some (.cells (arr n F) e (0, 0))
theorem Arr.cell {w : World} {b n k : Nat} {e : TypeId} {F : Nat → Value} (h : Arr w b n e F) (hk : k < n) : w.cell? ⟨b, k, none⟩ = some (F k) := (cell_of_block h).trans (arr_get F hk)
theorem Arr.lt {w : World} {b n : Nat} {e : TypeId} {F : Nat → Value} (h : Arr w b n e F) : b < w.heap.size := (Array.getElem?_eq_some_iff.1 h).1
theorem Arr.of_block {w w' : World} {b n : Nat} {e : TypeId} {F : Nat → Value} (h : Arr w b n e F) (hb : w'.heap[b]? = w.heap[b]?) : Arr w' b n e F := hb.trans h
theorem Arr.congr {w : World} {b n : Nat} {e : TypeId} {F G : Nat → Value} (h : Arr w b n e F) (hf : ∀ k, k < n → F k = G k) : Arr w b n e G := by
  unfold Arr at *
  rw [h, arr_congr hf]

section
variable {n : Nat} {f : Nat → Value} {w : World} {ops : Array Oper} {Q : Exit → Act → World → Prop} {rest : List Oper} {ty : TypeId} {pos : String} {aft : Array Edge} {d : Nat} {x y : Operand} {b l k : Nat} {e t : TypeId} {F : Nat → Value} {v : Value}

/-- A store into such a row. -/
theorem wl_set (ha : Arr w b l e F) (hk : k < l) (hsz : (Try.prog.info? t).map (·.size) = some 1) (hx : ev n f x = .pointer (some ⟨b, k, none⟩)) (hy : ev n f y = v) (hone : one v = true)
    (h : ∀ w', Arr w' b l e (fun j => if j = k then v else F j) → (∀ i, i ≠ b → w'.heap[i]? = w.heap[i]?) → w'.heap.size = w.heap.size → (∀ B X w0, B ≤ b ∨ b ∈ X → Kp B X w0 w → Kp B X w0 w') → wpList Try.prog ops Q rest (Fr n f) w') :
    wpList Try.prog ops Q (⟨none, .store t x y, ty, pos, aft, none⟩ :: rest) (Fr n f) w := by
  refine wl_unit (ex_store hsz hx hy hone ha (by rw [arr_size]; exact hk)) ?_
  refine h _ ?_ (fun i hi => ?_) (size_setBlock _ _ _) (fun B X w0 hB hkp => hkp.setBlock hB _)
  · unfold Arr
    rw [heap_setBlock ha.lt, if_pos rfl, arr_set]
  · rw [heap_setBlock ha.lt, if_neg hi]

theorem ex_loadArr {e' : TypeId} {l' : Nat} {dd : Option Tmp} {g : Option (Nat × Bool)} (hu : Try.prog.underlying t = some (.array l' e')) (hs : (Try.prog.info? t).map (·.size) = some l)
    (hx : ev n f x = .pointer (some ⟨b, 0, none⟩)) (ha : Arr w b l e F) : (execOp (ev n f) ⟨dd, .load t x, ty, pos, aft, g⟩).run Try.prog w = .ok (.value (.agg (arr l F))) w := by
  have := run_loadVar_row (P := Try.prog) w b e t (arr l F) (0, 0) _ ha hu rfl (by rw [arr_size]; exact hs)
  simp [execOp, hx, Instr.loadAt, Instr.sureAddr, this, Result.andThen]
end

/-! ### slices of ints that grow -/
theorem build48 (v : Int) (w : World) : (Instr.buildSlice 48 1 #[(0, .int .i64 v)]).run Try.prog w = .ok (.slice (some ⟨w.heap.size, 0, none⟩) 1 1) (w.alloc (.cells #[.int .i64 v] 3)) := by kernel_rfl

theorem ex_build48 {n : Nat} {f : Nat → Value} {w : World} {ty : TypeId} {pos : String} {aft : Array Edge} {d : Option Tmp} {g : Option (Nat × Bool)} {x : Operand} {v : Int} (hx : ev n f x = .int .i64 v) :
    (execOp (ev n f) ⟨d, .buildSlice 48 1 #[(0, x)], ty, pos, aft, g⟩).run Try.prog w = .ok (.value (.slice (some ⟨w.heap.size, 0, none⟩) 1 1)) (w.alloc (.cells #[.int .i64 v] 3)) := by
  simp [execOp, hx, build48, Result.andThen]

theorem size3 : (Try.prog.info? 3).map (·.size) = some 1 := by kernel_rfl
theorem info3 : (Try.prog.info? 3).map (fun i => (i.zero, i.size, i.bytes)) = some (some (.int .i64 0), 1, 8) := by kernel_rfl
theorem size48 : (Try.prog.info? 48).map (·.size) = some 1 := by kernel_rfl
theorem size28 : (Try.prog.info? 28).map (·.size) = some 1 := by kernel_rfl
theorem info28 : (Try.prog.info? 28).map (fun i => (i.zero, i.size, i.bytes)) = some (some (.map none), 1, 8) := by kernel_rfl
theorem size4 : (Try.prog.info? 4).map (·.size) = some 1 := by kernel_rfl
theorem size42 : (Try.prog.info? 42).map (·.size) = some 1 := by kernel_rfl

def ints (xs : List Nat) : List Value := xs.map fun i => .int .i64 (i : Nat)

/-- The slice at that address, of that capacity, owns the ints xs, in a block from B on. -/
def QRow (w : World) (B : Nat) (ao : Option Addr) (c : Nat) (xs : List Nat) : Prop := w.ownsRow B 3 1 (.slice ao xs.length c) xs.length (ints xs)

theorem QRow.cell {w : World} {B c : Nat} {ao : Option Addr} {xs : List Nat} (h : QRow w B ao c xs) {i v : Nat} (hi : xs[i]? = some v) : ∃ g, ao = some ⟨g, 0, none⟩ ∧ w.cell? ⟨g, i, none⟩ = some (.int .i64 (v : Nat)) := by
  have hlt : i < xs.length := (List.getElem?_eq_some_iff.1 hi).1
  rcases h.2 with ⟨hv, h0⟩ | ⟨g, cap, cur, hv, hb, hg, hnc, hcm, hcs, htake⟩
  · omega
  · simp only [Value.slice.injEq] at hv
    refine ⟨g, hv.1, ?_⟩
    rw [cell_of_block hg]
    have h1 : (cur.toList.take (xs.length * 1))[i]? = some (.int .i64 (v : Nat)) := by
      rw [htake, ints, List.getElem?_map, hi]
      rfl
    rw [List.getElem?_take_of_lt (by omega)] at h1
    simpa using h1

theorem QRow.block {w : World} {B c : Nat} {ao : Option Addr} {xs : List Nat} (h : QRow w B ao c xs) {x : Addr} (hx : ao = some x) : B ≤ x.block ∧ ∃ cs, w.heap[x.block]? = some (.cells cs 3 (0, 0)) := by
  rcases h.2 with ⟨hv, h0⟩ | ⟨g, cap, cur, hv, hb, hg, hnc, hcm, hcs, htake⟩
  · simp only [Value.slice.injEq] at hv
    rw [hv.1] at hx
    cases hx
  · simp only [Value.slice.injEq] at hv
    rw [hv.1] at hx
    cases hx
    exact ⟨hb, cur, hg⟩

theorem QRow.keep {w w' : World} {B c : Nat} {ao : Option Addr} {xs : List Nat} (h : QRow w B ao c xs) (hk : ∀ x, ao = some x → w'.heap[x.block]? = w.heap[x.block]?) : QRow w' B ao c xs := by
  refine ⟨h.1, ?_⟩
  rcases h.2 with hv | ⟨g, cap, cur, hv, hb, hg, rest⟩
  · exact Or.inl hv
  · refine Or.inr ⟨g, cap, cur, hv, hb, ?_, rest⟩
    simp only [Value.slice.injEq] at hv
    exact (hk _ hv.1).trans hg

theorem QRow.nil (w : World) (B : Nat) : QRow w B none 0 [] := World.ownsRow_nil w B 3 1

section
variable {n : Nat} {f : Nat → Value} {w : World} {ops : Array Oper} {Q : Exit → Act → World → Prop} {rest : List Oper} {ty : TypeId} {pos : String} {aft : Array Edge} {d : Nat} {x y : Operand} {B c hb : Nat} {ao : Option Addr} {xs : List Nat} {v : Nat}

/-- 'append(xs, v)'. -/
theorem wl_append (hq : QRow w B ao c xs) (hx : ev n f x = .slice ao xs.length c) (hy : ev n f y = .slice (some ⟨hb, 0, none⟩) 1 1) (hnew : w.cell? ⟨hb, 0, none⟩ = some (.int .i64 (v : Nat))) (hlen : xs.length < 1048576) (hB : B ≤ w.heap.size)
    (h : ∀ ao' c' w', QRow w' B ao' c' (xs ++ [v]) → w.grownBy w' (ao.map (·.block)) → (∀ x', ao' = some x' → ao = some x' ∨ x'.block = w.heap.size) → wpList Try.prog ops Q rest (Fr n (upd f d (.slice ao' (xs.length + 1) c'))) w') :
    wpList Try.prog ops Q (⟨some d, .call { callee := .builtin .append, args := #[x, y], argTypes := #[48, 48] }, ty, pos, aft, none⟩ :: rest) (Fr n f) w := by
  obtain ⟨i, hi, hzz⟩ := Option.map_eq_some_iff.1 info3
  simp only [Prod.mk.injEq] at hzz
  obtain ⟨hz, hs, hbb⟩ := hzz
  have e1 : ints (xs ++ [v]) = ints xs ++ [.int .i64 (v : Nat)] := by simp [ints]
  obtain ⟨v', w', hrun, hown, hgr, _, hat⟩ := run_append_own_at (P := Try.prog) w B 48 ty 3 i (.int .i64 0) 1 8 Try.underlying48 hi hz hs hbb rfl (by decide) _ _ _ hq ⟨hb, 0, none⟩ 1 1 [.int .i64 (v : Nat)] rfl (fun j u hj => by
      match j, hj with
      | 0, hj => simp at hj; subst hj; rw [add_eq]; exact hnew) (fun u hu => by simp at hu; subst hu; rfl) (by unfold maxLen; omega) (by omega) hB
  have hvo : Value.ownBlock (.slice ao xs.length c) = ao.map (·.block) := by cases ao <;> rfl
  rw [hvo] at hgr hat
  have hshape : ∃ ao' c', v' = .slice ao' (xs.length + 1) c' ∧ (∀ x', ao' = some x' → x' = ⟨x'.block, 0, none⟩) := by
    rcases hown.2 with ⟨_, h0⟩ | ⟨g, cap, cur, hv, _⟩
    · omega
    · exact ⟨_, _, hv, fun x' hx' => by cases hx'; rfl⟩
  obtain ⟨ao', c', rfl, hx0⟩ := hshape
  refine wl_val (w' := w') (v := .slice ao' (xs.length + 1) c') (by simp [execOp, resolve, invoke, builtin, hx, hy, hrun, Result.andThen]) ?_
  refine h ao' c' w' ?_ hgr (fun x' hx' => ?_)
  · unfold QRow
    rw [e1]
    have e2 : (xs ++ [v]).length = xs.length + 1 := by simp
    rw [e2]
    exact hown
  · subst hx'
    have hx1 := hx0 x' rfl
    rcases hat with h1 | h1
    · left
      simp only [Value.ownBlock] at h1
      cases ao with
      | none => simp at h1
      | some y' =>
        simp only [Option.map_some, Option.some.injEq] at h1
        have hy' : y' = ⟨y'.block, 0, none⟩ := by
          rcases hq.2 with ⟨hv, h0⟩ | ⟨g, cap, cur, hv, _⟩
          · simp at hv
          · simp only [Value.slice.injEq, Option.some.injEq] at hv
            rw [hv.1]
        rw [hx1, hy', h1]
    · right
      simpa [Value.ownBlock] using h1
end
end Go.Proofs.Qxb6600002a
