/-
  No cell of these rows narrows 'for every input' (looked for: loops, veiled, ifaces, maps, wideKeys, modest, calm, conditions, laid).
  DERIVED. THE GIVEN ROWS OF THIS SEAT. 5 by the template 'for every input the law returns true; each argument reads behind the call as it read before'; 0 by the template 'total and deterministic' (their statements: Qxb6600002aTotals.lean).
  GIVEN WITH THE SEED: the statements are not yours to turn. If you find one false, say at which input.
  Laid BY PROGRAM, IN A SANDBOX (cutbox-rows.mjs): the forced cells as the released guide's own fill.sh prints them over the translation 649677e6ff3a278b… (all of the seat's roots in one cut). By AI agents, Wed Nov 11 2026. No macro, syntax, notation, axiom, sorry.
-/
import Derived.Test.Qxb6600002aChecked
import GoSem.Claim
import GoSem.ClaimJoined
import GoSem.ClaimMapViews
import Derived.JoinedTies
import Derived.KernelRfl
namespace Go.Proofs.Qxb6600002a
/- THE CELL 'sum', in the pinned program and in every row, IS THE sha256 OF THE DUMP (.gsa) THAT Qxb6600002aProg.lean LOADS. Nothing in Lean hashes anything: it is a label: what it is worth is what the hold of that sum in a sandbox is worth. -/
noncomputable def Try.pinned : Pinned := { name := "qxb6600002a", sum := "649677e6ff3a278bcde9a817c644273115289a7017712ee2bdafe160c1c87b53", checked := Try.checked }
namespace Rows
def none {H : Type} : Left H := { results := [], args := [] }

/-- 'zzlaws_internal_version_b1.FnFirstTakeWaitsOnNothing': WHATEVER THE INPUT: true; the input reads as it did. -/
def fnFirstTakeWaitsOnNothingSpec : ChangeSpec := { name := "fnFirstTakeWaitsOnNothing", fn := fun _ => fun
  | [d1, d2] => { results := [.lit (.bool true)], args := [d1, d2] }
  | _ => none }
def fnFirstTakeWaitsOnNothingRow : OpenClaim := { program := "qxb6600002a", sum := "649677e6ff3a278bcde9a817c644273115289a7017712ee2bdafe160c1c87b53", func := "example.com/tideline/tideline/zzlaws_internal_version_b1.FnFirstTakeWaitsOnNothing", spec := "fnFirstTakeWaitsOnNothing", apart := false }
def FnFirstTakeWaitsOnNothingSaid : Prop := fnFirstTakeWaitsOnNothingRow.holds Try.pinned (OpenSpec.ofChange fnFirstTakeWaitsOnNothingSpec)

/-- ITS FALSE NEIGHBOUR: 'it returns false'. Refute it at one input. -/
def fnFirstTakeWaitsOnNothingWrong : ChangeSpec := { name := "fnFirstTakeWaitsOnNothing", fn := fun _ => fun
  | [d1, d2] => { results := [.lit (.bool false)], args := [d1, d2] }
  | _ => none }
def FnFirstTakeWaitsOnNothingWrongFalsely : Prop := fnFirstTakeWaitsOnNothingRow.holds Try.pinned (OpenSpec.ofChange fnFirstTakeWaitsOnNothingWrong)

/-- 'zzlaws_internal_version_b1.FnReadyExactlyWhenEarlierSharersApplied': WHATEVER THE INPUT: true; the input reads as it did. -/
def fnReadyExactlyWhenEarlierSharersAppliedSpec : ChangeSpec := { name := "fnReadyExactlyWhenEarlierSharersApplied", fn := fun _ => fun
  | [d1, d2, d3, d4] => { results := [.lit (.bool true)], args := [d1, d2, d3, d4] }
  | _ => none }
def fnReadyExactlyWhenEarlierSharersAppliedRow : OpenClaim := { program := "qxb6600002a", sum := "649677e6ff3a278bcde9a817c644273115289a7017712ee2bdafe160c1c87b53", func := "example.com/tideline/tideline/zzlaws_internal_version_b1.FnReadyExactlyWhenEarlierSharersApplied", spec := "fnReadyExactlyWhenEarlierSharersApplied", apart := false }
def FnReadyExactlyWhenEarlierSharersAppliedSaid : Prop := fnReadyExactlyWhenEarlierSharersAppliedRow.holds Try.pinned (OpenSpec.ofChange fnReadyExactlyWhenEarlierSharersAppliedSpec)

/-- ITS FALSE NEIGHBOUR: 'it returns false'. Refute it at one input. -/
def fnReadyExactlyWhenEarlierSharersAppliedWrong : ChangeSpec := { name := "fnReadyExactlyWhenEarlierSharersApplied", fn := fun _ => fun
  | [d1, d2, d3, d4] => { results := [.lit (.bool false)], args := [d1, d2, d3, d4] }
  | _ => none }
def FnReadyExactlyWhenEarlierSharersAppliedWrongFalsely : Prop := fnReadyExactlyWhenEarlierSharersAppliedRow.holds Try.pinned (OpenSpec.ofChange fnReadyExactlyWhenEarlierSharersAppliedWrong)

/-- 'zzlaws_internal_version_b1.FnTakeWaitsOnNoMoreThanTakenBefore': WHATEVER THE INPUT: true; the input reads as it did. -/
def fnTakeWaitsOnNoMoreThanTakenBeforeSpec : ChangeSpec := { name := "fnTakeWaitsOnNoMoreThanTakenBefore", fn := fun _ => fun
  | [d1, d2, d3] => { results := [.lit (.bool true)], args := [d1, d2, d3] }
  | _ => none }
def fnTakeWaitsOnNoMoreThanTakenBeforeRow : OpenClaim := { program := "qxb6600002a", sum := "649677e6ff3a278bcde9a817c644273115289a7017712ee2bdafe160c1c87b53", func := "example.com/tideline/tideline/zzlaws_internal_version_b1.FnTakeWaitsOnNoMoreThanTakenBefore", spec := "fnTakeWaitsOnNoMoreThanTakenBefore", apart := false }
def FnTakeWaitsOnNoMoreThanTakenBeforeSaid : Prop := fnTakeWaitsOnNoMoreThanTakenBeforeRow.holds Try.pinned (OpenSpec.ofChange fnTakeWaitsOnNoMoreThanTakenBeforeSpec)

/-- ITS FALSE NEIGHBOUR: 'it returns false'. Refute it at one input. -/
def fnTakeWaitsOnNoMoreThanTakenBeforeWrong : ChangeSpec := { name := "fnTakeWaitsOnNoMoreThanTakenBefore", fn := fun _ => fun
  | [d1, d2, d3] => { results := [.lit (.bool false)], args := [d1, d2, d3] }
  | _ => none }
def FnTakeWaitsOnNoMoreThanTakenBeforeWrongFalsely : Prop := fnTakeWaitsOnNoMoreThanTakenBeforeRow.holds Try.pinned (OpenSpec.ofChange fnTakeWaitsOnNoMoreThanTakenBeforeWrong)

/-- 'zzlaws_internal_version_b1.FnNeverHeldBackOnceEarlierSharersApplied': WHATEVER THE INPUT: true; the input reads as it did. -/
def fnNeverHeldBackOnceEarlierSharersAppliedSpec : ChangeSpec := { name := "fnNeverHeldBackOnceEarlierSharersApplied", fn := fun _ => fun
  | [d1, d2, d3] => { results := [.lit (.bool true)], args := [d1, d2, d3] }
  | _ => none }
def fnNeverHeldBackOnceEarlierSharersAppliedRow : OpenClaim := { program := "qxb6600002a", sum := "649677e6ff3a278bcde9a817c644273115289a7017712ee2bdafe160c1c87b53", func := "example.com/tideline/tideline/zzlaws_internal_version_b1.FnNeverHeldBackOnceEarlierSharersApplied", spec := "fnNeverHeldBackOnceEarlierSharersApplied", apart := false }
def FnNeverHeldBackOnceEarlierSharersAppliedSaid : Prop := fnNeverHeldBackOnceEarlierSharersAppliedRow.holds Try.pinned (OpenSpec.ofChange fnNeverHeldBackOnceEarlierSharersAppliedSpec)

/-- ITS FALSE NEIGHBOUR: 'it returns false'. Refute it at one input. -/
def fnNeverHeldBackOnceEarlierSharersAppliedWrong : ChangeSpec := { name := "fnNeverHeldBackOnceEarlierSharersApplied", fn := fun _ => fun
  | [d1, d2, d3] => { results := [.lit (.bool false)], args := [d1, d2, d3] }
  | _ => none }
def FnNeverHeldBackOnceEarlierSharersAppliedWrongFalsely : Prop := fnNeverHeldBackOnceEarlierSharersAppliedRow.holds Try.pinned (OpenSpec.ofChange fnNeverHeldBackOnceEarlierSharersAppliedWrong)

/-- 'zzlaws_internal_version_b1.FnHeldKeysAreThoseUnderWay': WHATEVER THE INPUT: true; the input reads as it did. -/
def fnHeldKeysAreThoseUnderWaySpec : ChangeSpec := { name := "fnHeldKeysAreThoseUnderWay", fn := fun _ => fun
  | [d1, d2, d3] => { results := [.lit (.bool true)], args := [d1, d2, d3] }
  | _ => none }
def fnHeldKeysAreThoseUnderWayRow : OpenClaim := { program := "qxb6600002a", sum := "649677e6ff3a278bcde9a817c644273115289a7017712ee2bdafe160c1c87b53", func := "example.com/tideline/tideline/zzlaws_internal_version_b1.FnHeldKeysAreThoseUnderWay", spec := "fnHeldKeysAreThoseUnderWay", apart := false }
def FnHeldKeysAreThoseUnderWaySaid : Prop := fnHeldKeysAreThoseUnderWayRow.holds Try.pinned (OpenSpec.ofChange fnHeldKeysAreThoseUnderWaySpec)

/-- ITS FALSE NEIGHBOUR: 'it returns false'. Refute it at one input. -/
def fnHeldKeysAreThoseUnderWayWrong : ChangeSpec := { name := "fnHeldKeysAreThoseUnderWay", fn := fun _ => fun
  | [d1, d2, d3] => { results := [.lit (.bool false)], args := [d1, d2, d3] }
  | _ => none }
def FnHeldKeysAreThoseUnderWayWrongFalsely : Prop := fnHeldKeysAreThoseUnderWayRow.holds Try.pinned (OpenSpec.ofChange fnHeldKeysAreThoseUnderWayWrong)

end Rows
end Go.Proofs.Qxb6600002a
