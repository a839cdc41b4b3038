/-
  No cell of these rows narrows 'for every input' (looked for: loops, veiled, ifaces, maps, wideKeys, modest, calm, conditions, laid).
  DERIVED. THE GIVEN ROWS OF THIS SEAT. 3 by the template 'for every input the law returns true; each argument reads behind the call as it read before'; 0 by the template 'total and deterministic' (their statements: Qxb6618749aTotals.lean).
  GIVEN WITH THE SEED: the statements are not yours to turn. If you find one false, say at which input.
  Laid BY PROGRAM, IN A SANDBOX (cutbox-rows.mjs): the forced cells as the released guide's own fill.sh prints them over the translation f26a43c498aaaf49… (all of the seat's roots in one cut). By AI agents, Wed Nov 11 2026. No macro, syntax, notation, axiom, sorry.
-/
import Derived.Test.Qxb6618749aChecked
import GoSem.Claim
import GoSem.ClaimJoined
import GoSem.ClaimMapViews
import Derived.JoinedTies
import Derived.KernelRfl
namespace Go.Proofs.Qxb6618749a
/- THE CELL 'sum', in the pinned program and in every row, IS THE sha256 OF THE DUMP (.gsa) THAT Qxb6618749aProg.lean LOADS. Nothing in Lean hashes anything: it is a label: what it is worth is what the hold of that sum in a sandbox is worth. -/
noncomputable def Try.pinned : Pinned := { name := "qxb6618749a", sum := "f26a43c498aaaf49672ecfab395bd82d64335ff9c8e5f23ff75457ec8604beb5", checked := Try.checked }
namespace Rows
def none {H : Type} : Left H := { results := [], args := [] }

/-- 'zzlaws_internal_human_b1.FnPatternCoefficientIsNearestClampedWholeAndTradesFrequencyForArea': WHATEVER THE INPUT: true; the input reads as it did. -/
def fnPatternCoefficientIsNearestClampedWholeAndTradesFrequencyForAreaSpec : ChangeSpec := { name := "fnPatternCoefficientIsNearestClampedWholeAndTradesFrequencyForArea", fn := fun _ => fun
  | [d1, d2] => { results := [.lit (.bool true)], args := [d1, d2] }
  | _ => none }
def fnPatternCoefficientIsNearestClampedWholeAndTradesFrequencyForAreaRow : OpenClaim := { program := "qxb6618749a", sum := "f26a43c498aaaf49672ecfab395bd82d64335ff9c8e5f23ff75457ec8604beb5", func := "example.com/vigilant-threshold/vigilant-threshold/zzlaws_internal_human_b1.FnPatternCoefficientIsNearestClampedWholeAndTradesFrequencyForArea", spec := "fnPatternCoefficientIsNearestClampedWholeAndTradesFrequencyForArea", inPlace := ["math.sqrt", "math.Float64bits", "math.Float64frombits"], apart := false }
def FnPatternCoefficientIsNearestClampedWholeAndTradesFrequencyForAreaSaid : Prop := fnPatternCoefficientIsNearestClampedWholeAndTradesFrequencyForAreaRow.holds Try.pinned (OpenSpec.ofChange fnPatternCoefficientIsNearestClampedWholeAndTradesFrequencyForAreaSpec)

/-- ITS FALSE NEIGHBOUR: 'it returns false'. Refute it at one input. -/
def fnPatternCoefficientIsNearestClampedWholeAndTradesFrequencyForAreaWrong : ChangeSpec := { name := "fnPatternCoefficientIsNearestClampedWholeAndTradesFrequencyForArea", fn := fun _ => fun
  | [d1, d2] => { results := [.lit (.bool false)], args := [d1, d2] }
  | _ => none }
def FnPatternCoefficientIsNearestClampedWholeAndTradesFrequencyForAreaWrongFalsely : Prop := fnPatternCoefficientIsNearestClampedWholeAndTradesFrequencyForAreaRow.holds Try.pinned (OpenSpec.ofChange fnPatternCoefficientIsNearestClampedWholeAndTradesFrequencyForAreaWrong)

/-- 'zzlaws_internal_human_b1.FnPatternCoefficientBlockSpansTheStimulusSide': WHATEVER THE INPUT: true; the input reads as it did. -/
def fnPatternCoefficientBlockSpansTheStimulusSideSpec : ChangeSpec := { name := "fnPatternCoefficientBlockSpansTheStimulusSide", fn := fun _ => fun
  | [d1, d2] => { results := [.lit (.bool true)], args := [d1, d2] }
  | _ => none }
def fnPatternCoefficientBlockSpansTheStimulusSideRow : OpenClaim := { program := "qxb6618749a", sum := "f26a43c498aaaf49672ecfab395bd82d64335ff9c8e5f23ff75457ec8604beb5", func := "example.com/vigilant-threshold/vigilant-threshold/zzlaws_internal_human_b1.FnPatternCoefficientBlockSpansTheStimulusSide", spec := "fnPatternCoefficientBlockSpansTheStimulusSide", inPlace := ["math.sqrt", "math.Float64bits", "math.Float64frombits"], apart := false }
def FnPatternCoefficientBlockSpansTheStimulusSideSaid : Prop := fnPatternCoefficientBlockSpansTheStimulusSideRow.holds Try.pinned (OpenSpec.ofChange fnPatternCoefficientBlockSpansTheStimulusSideSpec)

/-- ITS FALSE NEIGHBOUR: 'it returns false'. Refute it at one input. -/
def fnPatternCoefficientBlockSpansTheStimulusSideWrong : ChangeSpec := { name := "fnPatternCoefficientBlockSpansTheStimulusSide", fn := fun _ => fun
  | [d1, d2] => { results := [.lit (.bool false)], args := [d1, d2] }
  | _ => none }
def FnPatternCoefficientBlockSpansTheStimulusSideWrongFalsely : Prop := fnPatternCoefficientBlockSpansTheStimulusSideRow.holds Try.pinned (OpenSpec.ofChange fnPatternCoefficientBlockSpansTheStimulusSideWrong)

/-- 'zzlaws_internal_human_b1.FnPatternPixelInvertsAndHalvesAsFrequencyDoubles': WHATEVER THE INPUT: true; the input reads as it did. -/
def fnPatternPixelInvertsAndHalvesAsFrequencyDoublesSpec : ChangeSpec := { name := "fnPatternPixelInvertsAndHalvesAsFrequencyDoubles", fn := fun _ => fun
  | [d1, d2] => { results := [.lit (.bool true)], args := [d1, d2] }
  | _ => none }
def fnPatternPixelInvertsAndHalvesAsFrequencyDoublesRow : OpenClaim := { program := "qxb6618749a", sum := "f26a43c498aaaf49672ecfab395bd82d64335ff9c8e5f23ff75457ec8604beb5", func := "example.com/vigilant-threshold/vigilant-threshold/zzlaws_internal_human_b1.FnPatternPixelInvertsAndHalvesAsFrequencyDoubles", spec := "fnPatternPixelInvertsAndHalvesAsFrequencyDoubles", apart := false }
def FnPatternPixelInvertsAndHalvesAsFrequencyDoublesSaid : Prop := fnPatternPixelInvertsAndHalvesAsFrequencyDoublesRow.holds Try.pinned (OpenSpec.ofChange fnPatternPixelInvertsAndHalvesAsFrequencyDoublesSpec)

/-- ITS FALSE NEIGHBOUR: 'it returns false'. Refute it at one input. -/
def fnPatternPixelInvertsAndHalvesAsFrequencyDoublesWrong : ChangeSpec := { name := "fnPatternPixelInvertsAndHalvesAsFrequencyDoubles", fn := fun _ => fun
  | [d1, d2] => { results := [.lit (.bool false)], args := [d1, d2] }
  | _ => none }
def FnPatternPixelInvertsAndHalvesAsFrequencyDoublesWrongFalsely : Prop := fnPatternPixelInvertsAndHalvesAsFrequencyDoublesRow.holds Try.pinned (OpenSpec.ofChange fnPatternPixelInvertsAndHalvesAsFrequencyDoublesWrong)

end Rows
end Go.Proofs.Qxb6618749a
