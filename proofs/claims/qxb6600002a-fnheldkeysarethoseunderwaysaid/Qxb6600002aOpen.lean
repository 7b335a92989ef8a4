/-
  From the arguments as read to what the walks ask: slices of integers, of strings, as lists.
-/
import Derived.Test.Qxb6600002aRows
import Derived.Test.Qxb6600002aFirst
import Derived.ProofKit
import Derived.SliceStrings
import Derived.ChangeOld
import Derived.OpenShut
namespace Go.Proofs.Qxb6600002a
open Go.ChangeShapes Go.WideShapes Go.ChangeAt Go.RowKit
set_option linter.unusedVariables false
set_option linter.unusedSimpArgs false

theorem own : ownKnob Try.prog.godebug = none := by kernel_rfl
theorem laidOut : laidOutB Try.prog = true := by kernel_rfl

theorem wf_nat {k : IntKind} {n : Int} (hs : k.signed = false) (h : (Lit.int k n).wf = true) : ∃ v : Nat, n = (v : Int) ∧ v < 2 ^ k.bits := by
  have h1 : 0 ≤ n ∧ n ≤ 2 ^ k.bits - 1 := by
    simp [Lit.wf, IntKind.min, IntKind.max, hs] at h
    exact h
  obtain ⟨v, rfl⟩ := Int.eq_ofNat_of_zero_le h1.1
  refine ⟨v, rfl, ?_⟩
  have h2 : (v : Int) < ((2 ^ k.bits : Nat) : Int) := by
    have : ((2 ^ k.bits : Nat) : Int) = (2 : Int) ^ k.bits := by simp
    rw [this]
    omega
  omega

/-- A slice of unsigned integers that came in, as a list. -/
theorem open_nats {H : Type} {enc : TypeId × Value → H} {P : Program} {w : World} {base : Nat} {k : IntKind} {t e : TypeId} {fuel : Nat} {ao : Option Addr} {len cap : Nat} {x : DataW H × List MemPlace} (hs : k.signed = false) (ht : P.underlying t = some (.slice e)) (he : P.underlying e = some (.int k)) (hc : P.cellsOf e = 1)
    (h : DataW.trod enc P w base (fun _ => true) true fuel t (Value.cells (.slice ao len cap)).toList = some x) :
    ∃ vs : List Nat, len = vs.length ∧ Row (fun n : Nat => Value.int k (n : Int)) w ao vs ∧ (ao = none → vs = []) ∧ ∀ v ∈ vs, v < 2 ^ k.bits := by
  rcases open_ints ht he hc h with ⟨hcs, _⟩ | ⟨a, l, c, zs, hcs, _, hl, hm, hz, _, hcell, hwz⟩
  · simp [Value.cells] at hcs
    obtain ⟨rfl, rfl, rfl⟩ := hcs
    exact ⟨[], rfl, fun i v hv => by simp at hv, fun _ => rfl, by simp⟩
  · simp [Value.cells] at hcs
    obtain ⟨rfl, rfl, rfl⟩ := hcs
    have hz : zs.length = cap := by simpa using hz
    refine ⟨(zs.take len).map Int.toNat, by simp; omega, ?_, fun h => (by cases h), ?_⟩
    · intro i v hv
      rw [List.getElem?_map, Option.map_eq_some_iff] at hv
      obtain ⟨z, hz1, rfl⟩ := hv
      have hi : i < len := by have := (List.getElem?_eq_some_iff.1 hz1).1; simp at this; omega
      have hz2 : zs[i]? = some z := by rw [List.getElem?_take_of_lt hi] at hz1; exact hz1
      obtain ⟨v, hv, _⟩ := wf_nat hs (hwz z (List.mem_of_getElem? hz2))
      refine ⟨a, rfl, ?_⟩
      rw [hcell i (by omega)]
      simp [List.getD, hz2, hv]
    · intro v hv
      obtain ⟨z, hz1, rfl⟩ := List.mem_map.1 hv
      obtain ⟨v, hv, hb⟩ := wf_nat hs (hwz z (List.mem_of_mem_take hz1))
      subst hv
      simpa using hb

/-- A slice of strings that came in, as a list. -/
theorem open_strs {H : Type} {enc : TypeId × Value → H} {P : Program} {w : World} {base : Nat} {t e : TypeId} {fuel : Nat} {ao : Option Addr} {len cap : Nat} {x : DataW H × List MemPlace} (ht : P.underlying t = some (.slice e)) (he : P.underlying e = some .string) (hc : P.cellsOf e = 1)
    (h : DataW.trod enc P w base (fun _ => true) true fuel t (Value.cells (.slice ao len cap)).toList = some x) :
    ∃ vs : List ByteArray, len = vs.length ∧ Row encS w ao vs ∧ (ao = none → vs = []) := by
  rcases open_strings ht he hc h with ⟨hcs, _⟩ | ⟨a, l, c, zs, hcs, _, hl, hm, hz, _, hcell, hwz⟩
  · simp [Value.cells] at hcs
    obtain ⟨rfl, rfl, rfl⟩ := hcs
    exact ⟨[], rfl, fun i v hv => by simp at hv, fun _ => rfl⟩
  · simp [Value.cells] at hcs
    obtain ⟨rfl, rfl, rfl⟩ := hcs
    have hz : zs.length = cap := by simpa using hz
    refine ⟨zs.take len, by simp; omega, ?_, fun h => (by cases h)⟩
    intro i v hv
    have hi : i < len := by have := (List.getElem?_eq_some_iff.1 hv).1; simp at this; omega
    have hz2 : zs[i]? = some v := by rw [List.getElem?_take_of_lt hi] at hv; exact hv
    refine ⟨a, rfl, ?_⟩
    rw [hcell i (by omega)]
    simp [List.getD, hz2, encS]
end Go.Proofs.Qxb6600002a
