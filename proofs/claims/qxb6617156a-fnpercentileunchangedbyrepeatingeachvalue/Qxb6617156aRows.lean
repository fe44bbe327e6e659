/-
  No cell of these rows narrows 'for every input' (looked for: loops, veiled, ifaces, maps, wideKeys, modest, calm, conditions, laid).
  DERIVED. THE GIVEN ROWS OF THIS SEAT. 2 by the template 'for every input the law returns true; each argument reads behind the call as it read before'; 0 by the template 'total and deterministic' (their statements: Qxb6617156aTotals.lean).
  GIVEN WITH THE SEED: the statements are not yours to turn. If you find one false, say at which input.
  Laid BY PROGRAM, IN A SANDBOX (cutbox-rows.mjs): the forced cells as the released guide's own fill.sh prints them over the translation 28be5e5c2c1d0d70… (all of the seat's roots in one cut). By AI agents, Wed Nov 11 2026. No macro, syntax, notation, axiom, sorry.
-/
import Derived.Test.Qxb6617156aChecked
import GoSem.Claim
import GoSem.ClaimJoined
import GoSem.ClaimMapViews
import Derived.JoinedTies
import Derived.KernelRfl
namespace Go.Proofs.Qxb6617156a
/- THE CELL 'sum', in the pinned program and in every row, IS THE sha256 OF THE DUMP (.gsa) THAT Qxb6617156aProg.lean LOADS. Nothing in Lean hashes anything: it is a label: what it is worth is what the hold of that sum in a sandbox is worth. -/
noncomputable def Try.pinned : Pinned := { name := "qxb6617156a", sum := "28be5e5c2c1d0d709c6ebb4466b6b82a35e129c10668bd177d05202883f96464", checked := Try.checked }
namespace Rows
def none {H : Type} : Left H := { results := [], args := [] }

/-- 'zzlaws_bench_b1.FnPercentileNearestRankByCounts': WHATEVER THE INPUT: true; the input reads as it did. -/
def fnPercentileNearestRankByCountsSpec : ChangeSpec := { name := "fnPercentileNearestRankByCounts", fn := fun _ => fun
  | [d1, d2] => { results := [.lit (.bool true)], args := [d1, d2] }
  | _ => none }
def fnPercentileNearestRankByCountsRow : OpenClaim := { program := "qxb6617156a", sum := "28be5e5c2c1d0d709c6ebb4466b6b82a35e129c10668bd177d05202883f96464", func := "example.com/nuthatch/nuthatch/zzlaws_bench_b1.FnPercentileNearestRankByCounts", spec := "fnPercentileNearestRankByCounts", apart := false }
def FnPercentileNearestRankByCountsSaid : Prop := fnPercentileNearestRankByCountsRow.holds Try.pinned (OpenSpec.ofChange fnPercentileNearestRankByCountsSpec)

/-- ITS FALSE NEIGHBOUR: 'it returns false'. Refute it at one input. -/
def fnPercentileNearestRankByCountsWrong : ChangeSpec := { name := "fnPercentileNearestRankByCounts", fn := fun _ => fun
  | [d1, d2] => { results := [.lit (.bool false)], args := [d1, d2] }
  | _ => none }
def FnPercentileNearestRankByCountsWrongFalsely : Prop := fnPercentileNearestRankByCountsRow.holds Try.pinned (OpenSpec.ofChange fnPercentileNearestRankByCountsWrong)

/-- 'zzlaws_bench_b1.FnPercentileUnchangedByRepeatingEachValue': WHATEVER THE INPUT: true; the input reads as it did. -/
def fnPercentileUnchangedByRepeatingEachValueSpec : ChangeSpec := { name := "fnPercentileUnchangedByRepeatingEachValue", fn := fun _ => fun
  | [d1, d2, d3] => { results := [.lit (.bool true)], args := [d1, d2, d3] }
  | _ => none }
def fnPercentileUnchangedByRepeatingEachValueRow : OpenClaim := { program := "qxb6617156a", sum := "28be5e5c2c1d0d709c6ebb4466b6b82a35e129c10668bd177d05202883f96464", func := "example.com/nuthatch/nuthatch/zzlaws_bench_b1.FnPercentileUnchangedByRepeatingEachValue", spec := "fnPercentileUnchangedByRepeatingEachValue", apart := false }
def FnPercentileUnchangedByRepeatingEachValueSaid : Prop := fnPercentileUnchangedByRepeatingEachValueRow.holds Try.pinned (OpenSpec.ofChange fnPercentileUnchangedByRepeatingEachValueSpec)

/-- ITS FALSE NEIGHBOUR: 'it returns false'. Refute it at one input. -/
def fnPercentileUnchangedByRepeatingEachValueWrong : ChangeSpec := { name := "fnPercentileUnchangedByRepeatingEachValue", fn := fun _ => fun
  | [d1, d2, d3] => { results := [.lit (.bool false)], args := [d1, d2, d3] }
  | _ => none }
def FnPercentileUnchangedByRepeatingEachValueWrongFalsely : Prop := fnPercentileUnchangedByRepeatingEachValueRow.holds Try.pinned (OpenSpec.ofChange fnPercentileUnchangedByRepeatingEachValueWrong)

end Rows
end Go.Proofs.Qxb6617156a
