/-
  No cell of these rows narrows 'for every input' (looked for: loops, veiled, ifaces, maps, wideKeys, modest, calm, conditions, laid).
  DERIVED. THE GIVEN ROWS OF THIS SEAT. 2 by the template 'for every input the law returns true; each argument reads behind the call as it read before'; 0 by the template 'total and deterministic' (their statements: Qxb6627523aTotals.lean).
  GIVEN WITH THE SEED: the statements are not yours to turn. If you find one false, say at which input.
  Laid BY PROGRAM, IN A SANDBOX (cutbox-rows.mjs): the forced cells as the released guide's own fill.sh prints them over the translation 0047e16c459f3bdd… (all of the seat's roots in one cut). By AI agents, Wed Nov 11 2026. No macro, syntax, notation, axiom, sorry.
-/
import Derived.Test.Qxb6627523aChecked
import GoSem.Claim
import GoSem.ClaimJoined
import GoSem.ClaimMapViews
import Derived.JoinedTies
import Derived.KernelRfl
namespace Go.Proofs.Qxb6627523a
/- THE CELL 'sum', in the pinned program and in every row, IS THE sha256 OF THE DUMP (.gsa) THAT Qxb6627523aProg.lean LOADS. Nothing in Lean hashes anything: it is a label: what it is worth is what the hold of that sum in a sandbox is worth. -/
noncomputable def Try.pinned : Pinned := { name := "qxb6627523a", sum := "0047e16c459f3bdde16a3f8bc032d66ed09834c832b6030886959fd855d66fac", checked := Try.checked }
namespace Rows
def none {H : Type} : Left H := { results := [], args := [] }

/-- 'zzlaws_store_b1.FnStatsIgnoresAGapAnywhereAndFindsExtremes': WHATEVER THE INPUT: true; the input reads as it did. -/
def fnStatsIgnoresAGapAnywhereAndFindsExtremesSpec : ChangeSpec := { name := "fnStatsIgnoresAGapAnywhereAndFindsExtremes", fn := fun _ => fun
  | [d1, d2, d3, d4, d5] => { results := [.lit (.bool true)], args := [d1, d2, d3, d4, d5] }
  | _ => none }
def fnStatsIgnoresAGapAnywhereAndFindsExtremesRow : OpenClaim := { program := "qxb6627523a", sum := "0047e16c459f3bdde16a3f8bc032d66ed09834c832b6030886959fd855d66fac", func := "example.com/nodeglass/nodeglass/zzlaws_store_b1.FnStatsIgnoresAGapAnywhereAndFindsExtremes", spec := "fnStatsIgnoresAGapAnywhereAndFindsExtremes", inPlace := ["math.Float64frombits", "math.Float64bits"], apart := false }
def FnStatsIgnoresAGapAnywhereAndFindsExtremesSaid : Prop := fnStatsIgnoresAGapAnywhereAndFindsExtremesRow.holds Try.pinned (OpenSpec.ofChange fnStatsIgnoresAGapAnywhereAndFindsExtremesSpec)

/-- ITS FALSE NEIGHBOUR: 'it returns false'. Refute it at one input. -/
def fnStatsIgnoresAGapAnywhereAndFindsExtremesWrong : ChangeSpec := { name := "fnStatsIgnoresAGapAnywhereAndFindsExtremes", fn := fun _ => fun
  | [d1, d2, d3, d4, d5] => { results := [.lit (.bool false)], args := [d1, d2, d3, d4, d5] }
  | _ => none }
def FnStatsIgnoresAGapAnywhereAndFindsExtremesWrongFalsely : Prop := fnStatsIgnoresAGapAnywhereAndFindsExtremesRow.holds Try.pinned (OpenSpec.ofChange fnStatsIgnoresAGapAnywhereAndFindsExtremesWrong)

/-- 'zzlaws_store_b1.FnStatsOfNegatedValuesMirrorsAndAvgKeepsSign': WHATEVER THE INPUT: true; the input reads as it did. -/
def fnStatsOfNegatedValuesMirrorsAndAvgKeepsSignSpec : ChangeSpec := { name := "fnStatsOfNegatedValuesMirrorsAndAvgKeepsSign", fn := fun _ => fun
  | [d1, d2, d3, d4] => { results := [.lit (.bool true)], args := [d1, d2, d3, d4] }
  | _ => none }
def fnStatsOfNegatedValuesMirrorsAndAvgKeepsSignRow : OpenClaim := { program := "qxb6627523a", sum := "0047e16c459f3bdde16a3f8bc032d66ed09834c832b6030886959fd855d66fac", func := "example.com/nodeglass/nodeglass/zzlaws_store_b1.FnStatsOfNegatedValuesMirrorsAndAvgKeepsSign", spec := "fnStatsOfNegatedValuesMirrorsAndAvgKeepsSign", inPlace := ["math.Float64frombits", "math.Float64bits"], apart := false }
def FnStatsOfNegatedValuesMirrorsAndAvgKeepsSignSaid : Prop := fnStatsOfNegatedValuesMirrorsAndAvgKeepsSignRow.holds Try.pinned (OpenSpec.ofChange fnStatsOfNegatedValuesMirrorsAndAvgKeepsSignSpec)

/-- ITS FALSE NEIGHBOUR: 'it returns false'. Refute it at one input. -/
def fnStatsOfNegatedValuesMirrorsAndAvgKeepsSignWrong : ChangeSpec := { name := "fnStatsOfNegatedValuesMirrorsAndAvgKeepsSign", fn := fun _ => fun
  | [d1, d2, d3, d4] => { results := [.lit (.bool false)], args := [d1, d2, d3, d4] }
  | _ => none }
def FnStatsOfNegatedValuesMirrorsAndAvgKeepsSignWrongFalsely : Prop := fnStatsOfNegatedValuesMirrorsAndAvgKeepsSignRow.holds Try.pinned (OpenSpec.ofChange fnStatsOfNegatedValuesMirrorsAndAvgKeepsSignWrong)

end Rows
end Go.Proofs.Qxb6627523a
