/-
  No cell of these rows narrows 'for every input' (looked for: loops, veiled, ifaces, maps, wideKeys, modest, calm, conditions, laid).
  DERIVED. THE GIVEN ROWS OF THIS SEAT. 4 by the template 'for every input the law returns true; each argument reads behind the call as it read before'; 0 by the template 'total and deterministic' (their statements: Qxb6619257aTotals.lean).
  GIVEN WITH THE SEED: the statements are not yours to turn. If you find one false, say at which input.
  Laid BY PROGRAM, IN A SANDBOX (cutbox-rows.mjs): the forced cells as the released guide's own fill.sh prints them over the translation b3d916b4d305ea50… (all of the seat's roots in one cut). By AI agents, Wed Nov 11 2026. No macro, syntax, notation, axiom, sorry.
-/
import Derived.Test.Qxb6619257aChecked
import GoSem.Claim
import GoSem.ClaimJoined
import GoSem.ClaimMapViews
import Derived.JoinedTies
import Derived.KernelRfl
namespace Go.Proofs.Qxb6619257a
/- THE CELL 'sum', in the pinned program and in every row, IS THE sha256 OF THE DUMP (.gsa) THAT Qxb6619257aProg.lean LOADS. Nothing in Lean hashes anything: it is a label: what it is worth is what the hold of that sum in a sandbox is worth. -/
noncomputable def Try.pinned : Pinned := { name := "qxb6619257a", sum := "b3d916b4d305ea5024f4d237f03122ef10c5ccff5709ce183e3ec662c8fb22c1", checked := Try.checked }
namespace Rows
def none {H : Type} : Left H := { results := [], args := [] }

/-- 'zzlaws_pkg_expand_b1.FnForEachIsSortedDistinctSetAnyOrder': WHATEVER THE INPUT: true; the input reads as it did. -/
def fnForEachIsSortedDistinctSetAnyOrderSpec : ChangeSpec := { name := "fnForEachIsSortedDistinctSetAnyOrder", fn := fun _ => fun
  | [d1, d2] => { results := [.lit (.bool true)], args := [d1, d2] }
  | _ => none }
def fnForEachIsSortedDistinctSetAnyOrderRow : OpenClaim := { program := "qxb6619257a", sum := "b3d916b4d305ea5024f4d237f03122ef10c5ccff5709ce183e3ec662c8fb22c1", func := "example.com/unroll/unroll/zzlaws_pkg_expand_b1.FnForEachIsSortedDistinctSetAnyOrder", spec := "fnForEachIsSortedDistinctSetAnyOrder", recurses := true, apart := false }
def FnForEachIsSortedDistinctSetAnyOrderSaid : Prop := fnForEachIsSortedDistinctSetAnyOrderRow.holds Try.pinned (OpenSpec.ofChange fnForEachIsSortedDistinctSetAnyOrderSpec)

/-- ITS FALSE NEIGHBOUR: 'it returns false'. Refute it at one input. -/
def fnForEachIsSortedDistinctSetAnyOrderWrong : ChangeSpec := { name := "fnForEachIsSortedDistinctSetAnyOrder", fn := fun _ => fun
  | [d1, d2] => { results := [.lit (.bool false)], args := [d1, d2] }
  | _ => none }
def FnForEachIsSortedDistinctSetAnyOrderWrongFalsely : Prop := fnForEachIsSortedDistinctSetAnyOrderRow.holds Try.pinned (OpenSpec.ofChange fnForEachIsSortedDistinctSetAnyOrderWrong)

/-- 'zzlaws_pkg_expand_b1.FnForEachOfItsOwnKeysIsUnchanged': WHATEVER THE INPUT: true; the input reads as it did. -/
def fnForEachOfItsOwnKeysIsUnchangedSpec : ChangeSpec := { name := "fnForEachOfItsOwnKeysIsUnchanged", fn := fun _ => fun
  | [d] => { results := [.lit (.bool true)], args := [d] }
  | _ => none }
def fnForEachOfItsOwnKeysIsUnchangedRow : OpenClaim := { program := "qxb6619257a", sum := "b3d916b4d305ea5024f4d237f03122ef10c5ccff5709ce183e3ec662c8fb22c1", func := "example.com/unroll/unroll/zzlaws_pkg_expand_b1.FnForEachOfItsOwnKeysIsUnchanged", spec := "fnForEachOfItsOwnKeysIsUnchanged", recurses := true, apart := false }
def FnForEachOfItsOwnKeysIsUnchangedSaid : Prop := fnForEachOfItsOwnKeysIsUnchangedRow.holds Try.pinned (OpenSpec.ofChange fnForEachOfItsOwnKeysIsUnchangedSpec)

/-- ITS FALSE NEIGHBOUR: 'it returns false'. Refute it at one input. -/
def fnForEachOfItsOwnKeysIsUnchangedWrong : ChangeSpec := { name := "fnForEachOfItsOwnKeysIsUnchanged", fn := fun _ => fun
  | [d] => { results := [.lit (.bool false)], args := [d] }
  | _ => none }
def FnForEachOfItsOwnKeysIsUnchangedWrongFalsely : Prop := fnForEachOfItsOwnKeysIsUnchangedRow.holds Try.pinned (OpenSpec.ofChange fnForEachOfItsOwnKeysIsUnchangedWrong)

/-- 'zzlaws_pkg_expand_b1.FnLenOfForEachCountsDistinctKeys': WHATEVER THE INPUT: true; the input reads as it did. -/
def fnLenOfForEachCountsDistinctKeysSpec : ChangeSpec := { name := "fnLenOfForEachCountsDistinctKeys", fn := fun _ => fun
  | [d] => { results := [.lit (.bool true)], args := [d] }
  | _ => none }
def fnLenOfForEachCountsDistinctKeysRow : OpenClaim := { program := "qxb6619257a", sum := "b3d916b4d305ea5024f4d237f03122ef10c5ccff5709ce183e3ec662c8fb22c1", func := "example.com/unroll/unroll/zzlaws_pkg_expand_b1.FnLenOfForEachCountsDistinctKeys", spec := "fnLenOfForEachCountsDistinctKeys", recurses := true, apart := false }
def FnLenOfForEachCountsDistinctKeysSaid : Prop := fnLenOfForEachCountsDistinctKeysRow.holds Try.pinned (OpenSpec.ofChange fnLenOfForEachCountsDistinctKeysSpec)

/-- ITS FALSE NEIGHBOUR: 'it returns false'. Refute it at one input. -/
def fnLenOfForEachCountsDistinctKeysWrong : ChangeSpec := { name := "fnLenOfForEachCountsDistinctKeys", fn := fun _ => fun
  | [d] => { results := [.lit (.bool false)], args := [d] }
  | _ => none }
def FnLenOfForEachCountsDistinctKeysWrongFalsely : Prop := fnLenOfForEachCountsDistinctKeysRow.holds Try.pinned (OpenSpec.ofChange fnLenOfForEachCountsDistinctKeysWrong)

/-- 'zzlaws_pkg_expand_b1.FnLenOfForEachGrowsByOneForNewKey': WHATEVER THE INPUT: true; the input reads as it did. -/
def fnLenOfForEachGrowsByOneForNewKeySpec : ChangeSpec := { name := "fnLenOfForEachGrowsByOneForNewKey", fn := fun _ => fun
  | [d1, d2, d3] => { results := [.lit (.bool true)], args := [d1, d2, d3] }
  | _ => none }
def fnLenOfForEachGrowsByOneForNewKeyRow : OpenClaim := { program := "qxb6619257a", sum := "b3d916b4d305ea5024f4d237f03122ef10c5ccff5709ce183e3ec662c8fb22c1", func := "example.com/unroll/unroll/zzlaws_pkg_expand_b1.FnLenOfForEachGrowsByOneForNewKey", spec := "fnLenOfForEachGrowsByOneForNewKey", recurses := true, apart := false }
def FnLenOfForEachGrowsByOneForNewKeySaid : Prop := fnLenOfForEachGrowsByOneForNewKeyRow.holds Try.pinned (OpenSpec.ofChange fnLenOfForEachGrowsByOneForNewKeySpec)

/-- ITS FALSE NEIGHBOUR: 'it returns false'. Refute it at one input. -/
def fnLenOfForEachGrowsByOneForNewKeyWrong : ChangeSpec := { name := "fnLenOfForEachGrowsByOneForNewKey", fn := fun _ => fun
  | [d1, d2, d3] => { results := [.lit (.bool false)], args := [d1, d2, d3] }
  | _ => none }
def FnLenOfForEachGrowsByOneForNewKeyWrongFalsely : Prop := fnLenOfForEachGrowsByOneForNewKeyRow.holds Try.pinned (OpenSpec.ofChange fnLenOfForEachGrowsByOneForNewKeyWrong)

end Rows
end Go.Proofs.Qxb6619257a
