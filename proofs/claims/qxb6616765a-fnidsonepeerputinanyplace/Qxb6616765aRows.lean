/-
  No cell of these rows narrows 'for every input' (looked for: loops, veiled, ifaces, maps, wideKeys, modest, calm, conditions, laid).
  DERIVED. THE GIVEN ROWS OF THIS SEAT. 6 by the template 'for every input the law returns true; each argument reads behind the call as it read before'; 0 by the template 'total and deterministic' (their statements: Qxb6616765aTotals.lean).
  GIVEN WITH THE SEED: the statements are not yours to turn. If you find one false, say at which input.
  Laid BY PROGRAM, IN A SANDBOX (cutbox-rows.mjs): the forced cells as the released guide's own fill.sh prints them over the translation 123f071e52ca2b28… (all of the seat's roots in one cut). By AI agents, Wed Nov 11 2026. No macro, syntax, notation, axiom, sorry.
-/
import Derived.Test.Qxb6616765aChecked
import GoSem.Claim
import GoSem.ClaimJoined
import GoSem.ClaimMapViews
import Derived.JoinedTies
import Derived.KernelRfl
namespace Go.Proofs.Qxb6616765a
/- THE CELL 'sum', in the pinned program and in every row, IS THE sha256 OF THE DUMP (.gsa) THAT Qxb6616765aProg.lean LOADS. Nothing in Lean hashes anything: it is a label: what it is worth is what the hold of that sum in a sandbox is worth. -/
noncomputable def Try.pinned : Pinned := { name := "qxb6616765a", sum := "123f071e52ca2b280bb1ecac817382e66ac055edfc11fe50269c551be7c9eb13", checked := Try.checked }
namespace Rows
def none {H : Type} : Left H := { results := [], args := [] }

/-- 'zzlaws_root_b1.FnNewIDCmpIsNumericOrder': WHATEVER THE INPUT: true; the input reads as it did. -/
def fnNewIDCmpIsNumericOrderSpec : ChangeSpec := { name := "fnNewIDCmpIsNumericOrder", fn := fun _ => fun
  | [d1, d2, d3, d4] => { results := [.lit (.bool true)], args := [d1, d2, d3, d4] }
  | _ => none }
def fnNewIDCmpIsNumericOrderRow : OpenClaim := { program := "qxb6616765a", sum := "123f071e52ca2b280bb1ecac817382e66ac055edfc11fe50269c551be7c9eb13", func := "example.com/ringroute/ringroute/zzlaws_root_b1.FnNewIDCmpIsNumericOrder", spec := "fnNewIDCmpIsNumericOrder", apart := false }
def FnNewIDCmpIsNumericOrderSaid : Prop := fnNewIDCmpIsNumericOrderRow.holds Try.pinned (OpenSpec.ofChange fnNewIDCmpIsNumericOrderSpec)

/-- ITS FALSE NEIGHBOUR: 'it returns false'. Refute it at one input. -/
def fnNewIDCmpIsNumericOrderWrong : ChangeSpec := { name := "fnNewIDCmpIsNumericOrder", fn := fun _ => fun
  | [d1, d2, d3, d4] => { results := [.lit (.bool false)], args := [d1, d2, d3, d4] }
  | _ => none }
def FnNewIDCmpIsNumericOrderWrongFalsely : Prop := fnNewIDCmpIsNumericOrderRow.holds Try.pinned (OpenSpec.ofChange fnNewIDCmpIsNumericOrderWrong)

/-- 'zzlaws_root_b1.FnNewIDDifferenceAddsBack': WHATEVER THE INPUT: true; the input reads as it did. -/
def fnNewIDDifferenceAddsBackSpec : ChangeSpec := { name := "fnNewIDDifferenceAddsBack", fn := fun _ => fun
  | [d1, d2, d3, d4] => { results := [.lit (.bool true)], args := [d1, d2, d3, d4] }
  | _ => none }
def fnNewIDDifferenceAddsBackRow : OpenClaim := { program := "qxb6616765a", sum := "123f071e52ca2b280bb1ecac817382e66ac055edfc11fe50269c551be7c9eb13", func := "example.com/ringroute/ringroute/zzlaws_root_b1.FnNewIDDifferenceAddsBack", spec := "fnNewIDDifferenceAddsBack", inPlace := ["math/bits.Sub64"], apart := false }
def FnNewIDDifferenceAddsBackSaid : Prop := fnNewIDDifferenceAddsBackRow.holds Try.pinned (OpenSpec.ofChange fnNewIDDifferenceAddsBackSpec)

/-- ITS FALSE NEIGHBOUR: 'it returns false'. Refute it at one input. -/
def fnNewIDDifferenceAddsBackWrong : ChangeSpec := { name := "fnNewIDDifferenceAddsBack", fn := fun _ => fun
  | [d1, d2, d3, d4] => { results := [.lit (.bool false)], args := [d1, d2, d3, d4] }
  | _ => none }
def FnNewIDDifferenceAddsBackWrongFalsely : Prop := fnNewIDDifferenceAddsBackRow.holds Try.pinned (OpenSpec.ofChange fnNewIDDifferenceAddsBackWrong)

/-- 'zzlaws_root_b1.FnIdsSplitsAtAnyCut': WHATEVER THE INPUT: true; the input reads as it did. -/
def fnIdsSplitsAtAnyCutSpec : ChangeSpec := { name := "fnIdsSplitsAtAnyCut", fn := fun _ => fun
  | [d1, d2] => { results := [.lit (.bool true)], args := [d1, d2] }
  | _ => none }
def fnIdsSplitsAtAnyCutRow : OpenClaim := { program := "qxb6616765a", sum := "123f071e52ca2b280bb1ecac817382e66ac055edfc11fe50269c551be7c9eb13", func := "example.com/ringroute/ringroute/zzlaws_root_b1.FnIdsSplitsAtAnyCut", spec := "fnIdsSplitsAtAnyCut", apart := false }
def FnIdsSplitsAtAnyCutSaid : Prop := fnIdsSplitsAtAnyCutRow.holds Try.pinned (OpenSpec.ofChange fnIdsSplitsAtAnyCutSpec)

/-- ITS FALSE NEIGHBOUR: 'it returns false'. Refute it at one input. -/
def fnIdsSplitsAtAnyCutWrong : ChangeSpec := { name := "fnIdsSplitsAtAnyCut", fn := fun _ => fun
  | [d1, d2] => { results := [.lit (.bool false)], args := [d1, d2] }
  | _ => none }
def FnIdsSplitsAtAnyCutWrongFalsely : Prop := fnIdsSplitsAtAnyCutRow.holds Try.pinned (OpenSpec.ofChange fnIdsSplitsAtAnyCutWrong)

/-- 'zzlaws_root_b1.FnXorWithinIsNearestBucketCount': WHATEVER THE INPUT: true; the input reads as it did. -/
def fnXorWithinIsNearestBucketCountSpec : ChangeSpec := { name := "fnXorWithinIsNearestBucketCount", fn := fun _ => fun
  | [d1, d2, d3, d4, d5, d6, d7] => { results := [.lit (.bool true)], args := [d1, d2, d3, d4, d5, d6, d7] }
  | _ => none }
def fnXorWithinIsNearestBucketCountRow : OpenClaim := { program := "qxb6616765a", sum := "123f071e52ca2b280bb1ecac817382e66ac055edfc11fe50269c551be7c9eb13", func := "example.com/ringroute/ringroute/zzlaws_root_b1.FnXorWithinIsNearestBucketCount", spec := "fnXorWithinIsNearestBucketCount", apart := false }
def FnXorWithinIsNearestBucketCountSaid : Prop := fnXorWithinIsNearestBucketCountRow.holds Try.pinned (OpenSpec.ofChange fnXorWithinIsNearestBucketCountSpec)

/-- ITS FALSE NEIGHBOUR: 'it returns false'. Refute it at one input. -/
def fnXorWithinIsNearestBucketCountWrong : ChangeSpec := { name := "fnXorWithinIsNearestBucketCount", fn := fun _ => fun
  | [d1, d2, d3, d4, d5, d6, d7] => { results := [.lit (.bool false)], args := [d1, d2, d3, d4, d5, d6, d7] }
  | _ => none }
def FnXorWithinIsNearestBucketCountWrongFalsely : Prop := fnXorWithinIsNearestBucketCountRow.holds Try.pinned (OpenSpec.ofChange fnXorWithinIsNearestBucketCountWrong)

/-- 'zzlaws_root_b1.FnXorWithinIgnoresOtherFieldsAndKeepsOrder': WHATEVER THE INPUT: true; the input reads as it did. -/
def fnXorWithinIgnoresOtherFieldsAndKeepsOrderSpec : ChangeSpec := { name := "fnXorWithinIgnoresOtherFieldsAndKeepsOrder", fn := fun _ => fun
  | [d1, d2, d3, d4, d5, d6, d7, d8] => { results := [.lit (.bool true)], args := [d1, d2, d3, d4, d5, d6, d7, d8] }
  | _ => none }
def fnXorWithinIgnoresOtherFieldsAndKeepsOrderRow : OpenClaim := { program := "qxb6616765a", sum := "123f071e52ca2b280bb1ecac817382e66ac055edfc11fe50269c551be7c9eb13", func := "example.com/ringroute/ringroute/zzlaws_root_b1.FnXorWithinIgnoresOtherFieldsAndKeepsOrder", spec := "fnXorWithinIgnoresOtherFieldsAndKeepsOrder", apart := false }
def FnXorWithinIgnoresOtherFieldsAndKeepsOrderSaid : Prop := fnXorWithinIgnoresOtherFieldsAndKeepsOrderRow.holds Try.pinned (OpenSpec.ofChange fnXorWithinIgnoresOtherFieldsAndKeepsOrderSpec)

/-- ITS FALSE NEIGHBOUR: 'it returns false'. Refute it at one input. -/
def fnXorWithinIgnoresOtherFieldsAndKeepsOrderWrong : ChangeSpec := { name := "fnXorWithinIgnoresOtherFieldsAndKeepsOrder", fn := fun _ => fun
  | [d1, d2, d3, d4, d5, d6, d7, d8] => { results := [.lit (.bool false)], args := [d1, d2, d3, d4, d5, d6, d7, d8] }
  | _ => none }
def FnXorWithinIgnoresOtherFieldsAndKeepsOrderWrongFalsely : Prop := fnXorWithinIgnoresOtherFieldsAndKeepsOrderRow.holds Try.pinned (OpenSpec.ofChange fnXorWithinIgnoresOtherFieldsAndKeepsOrderWrong)

/-- 'zzlaws_root_b1.FnIdsOnePeerPutInAnyPlace': WHATEVER THE INPUT: true; the input reads as it did. -/
def fnIdsOnePeerPutInAnyPlaceSpec : ChangeSpec := { name := "fnIdsOnePeerPutInAnyPlace", fn := fun _ => fun
  | [d1, d2, d3, d4, d5] => { results := [.lit (.bool true)], args := [d1, d2, d3, d4, d5] }
  | _ => none }
def fnIdsOnePeerPutInAnyPlaceRow : OpenClaim := { program := "qxb6616765a", sum := "123f071e52ca2b280bb1ecac817382e66ac055edfc11fe50269c551be7c9eb13", func := "example.com/ringroute/ringroute/zzlaws_root_b1.FnIdsOnePeerPutInAnyPlace", spec := "fnIdsOnePeerPutInAnyPlace", apart := false }
def FnIdsOnePeerPutInAnyPlaceSaid : Prop := fnIdsOnePeerPutInAnyPlaceRow.holds Try.pinned (OpenSpec.ofChange fnIdsOnePeerPutInAnyPlaceSpec)

/-- ITS FALSE NEIGHBOUR: 'it returns false'. Refute it at one input. -/
def fnIdsOnePeerPutInAnyPlaceWrong : ChangeSpec := { name := "fnIdsOnePeerPutInAnyPlace", fn := fun _ => fun
  | [d1, d2, d3, d4, d5] => { results := [.lit (.bool false)], args := [d1, d2, d3, d4, d5] }
  | _ => none }
def FnIdsOnePeerPutInAnyPlaceWrongFalsely : Prop := fnIdsOnePeerPutInAnyPlaceRow.holds Try.pinned (OpenSpec.ofChange fnIdsOnePeerPutInAnyPlaceWrong)

end Rows
end Go.Proofs.Qxb6616765a
