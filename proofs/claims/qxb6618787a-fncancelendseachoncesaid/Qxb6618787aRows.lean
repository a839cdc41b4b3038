/-
  No cell of these rows narrows 'for every input' (looked for: loops, veiled, ifaces, maps, wideKeys, modest, calm, conditions, laid).
  DERIVED. THE GIVEN ROWS OF THIS SEAT. 3 by the template 'for every input the law returns true; each argument reads behind the call as it read before'; 0 by the template 'total and deterministic' (their statements: Qxb6618787aTotals.lean).
  GIVEN WITH THE SEED: the statements are not yours to turn. If you find one false, say at which input.
  Laid BY PROGRAM, IN A SANDBOX (cutbox-rows.mjs): the forced cells as the released guide's own fill.sh prints them over the translation a0d3e95ca20117f1… (all of the seat's roots in one cut). By AI agents, Wed Nov 11 2026. No macro, syntax, notation, axiom, sorry.
-/
import Derived.Test.Qxb6618787aChecked
import GoSem.Claim
import GoSem.ClaimJoined
import GoSem.ClaimMapViews
import Derived.JoinedTies
import Derived.KernelRfl
namespace Go.Proofs.Qxb6618787a
/- THE CELL 'sum', in the pinned program and in every row, IS THE sha256 OF THE DUMP (.gsa) THAT Qxb6618787aProg.lean LOADS. Nothing in Lean hashes anything: it is a label: what it is worth is what the hold of that sum in a sandbox is worth. -/
noncomputable def Try.pinned : Pinned := { name := "qxb6618787a", sum := "a0d3e95ca20117f1ce906e9cb2502e34e720c30b409fb28cbb8a616651524bb2", checked := Try.checked }
namespace Rows
def none {H : Type} : Left H := { results := [], args := [] }

/-- 'zzlaws_root_b1.FnDominatesStepsUpTheTree': WHATEVER THE INPUT: true; the input reads as it did. -/
def fnDominatesStepsUpTheTreeSpec : ChangeSpec := { name := "fnDominatesStepsUpTheTree", fn := fun _ => fun
  | [d1, d2, d3] => { results := [.lit (.bool true)], args := [d1, d2, d3] }
  | _ => none }
def fnDominatesStepsUpTheTreeRow : OpenClaim := { program := "qxb6618787a", sum := "a0d3e95ca20117f1ce906e9cb2502e34e720c30b409fb28cbb8a616651524bb2", func := "example.com/ramify/ramify/zzlaws_root_b1.FnDominatesStepsUpTheTree", spec := "fnDominatesStepsUpTheTree", plainKeys := false, apart := false }
def FnDominatesStepsUpTheTreeSaid : Prop := fnDominatesStepsUpTheTreeRow.holds Try.pinned (OpenSpec.ofChange fnDominatesStepsUpTheTreeSpec)

/-- ITS FALSE NEIGHBOUR: 'it returns false'. Refute it at one input. -/
def fnDominatesStepsUpTheTreeWrong : ChangeSpec := { name := "fnDominatesStepsUpTheTree", fn := fun _ => fun
  | [d1, d2, d3] => { results := [.lit (.bool false)], args := [d1, d2, d3] }
  | _ => none }
def FnDominatesStepsUpTheTreeWrongFalsely : Prop := fnDominatesStepsUpTheTreeRow.holds Try.pinned (OpenSpec.ofChange fnDominatesStepsUpTheTreeWrong)

/-- 'zzlaws_root_b1.FnDominatesIsAChainOrder': WHATEVER THE INPUT: true; the input reads as it did. -/
def fnDominatesIsAChainOrderSpec : ChangeSpec := { name := "fnDominatesIsAChainOrder", fn := fun _ => fun
  | [d1, d2, d3, d4] => { results := [.lit (.bool true)], args := [d1, d2, d3, d4] }
  | _ => none }
def fnDominatesIsAChainOrderRow : OpenClaim := { program := "qxb6618787a", sum := "a0d3e95ca20117f1ce906e9cb2502e34e720c30b409fb28cbb8a616651524bb2", func := "example.com/ramify/ramify/zzlaws_root_b1.FnDominatesIsAChainOrder", spec := "fnDominatesIsAChainOrder", plainKeys := false, apart := false }
def FnDominatesIsAChainOrderSaid : Prop := fnDominatesIsAChainOrderRow.holds Try.pinned (OpenSpec.ofChange fnDominatesIsAChainOrderSpec)

/-- ITS FALSE NEIGHBOUR: 'it returns false'. Refute it at one input. -/
def fnDominatesIsAChainOrderWrong : ChangeSpec := { name := "fnDominatesIsAChainOrder", fn := fun _ => fun
  | [d1, d2, d3, d4] => { results := [.lit (.bool false)], args := [d1, d2, d3, d4] }
  | _ => none }
def FnDominatesIsAChainOrderWrongFalsely : Prop := fnDominatesIsAChainOrderRow.holds Try.pinned (OpenSpec.ofChange fnDominatesIsAChainOrderWrong)

/-- 'zzlaws_root_b1.FnCancelEndsEachOnce': WHATEVER THE INPUT: true; the input reads as it did. -/
def fnCancelEndsEachOnceSpec : ChangeSpec := { name := "fnCancelEndsEachOnce", fn := fun _ => fun
  | [d1, d2, d3, d4] => { results := [.lit (.bool true)], args := [d1, d2, d3, d4] }
  | _ => none }
def fnCancelEndsEachOnceRow : OpenClaim := { program := "qxb6618787a", sum := "a0d3e95ca20117f1ce906e9cb2502e34e720c30b409fb28cbb8a616651524bb2", func := "example.com/ramify/ramify/zzlaws_root_b1.FnCancelEndsEachOnce", spec := "fnCancelEndsEachOnce", plainKeys := false, apart := false }
def FnCancelEndsEachOnceSaid : Prop := fnCancelEndsEachOnceRow.holds Try.pinned (OpenSpec.ofChange fnCancelEndsEachOnceSpec)

/-- ITS FALSE NEIGHBOUR: 'it returns false'. Refute it at one input. -/
def fnCancelEndsEachOnceWrong : ChangeSpec := { name := "fnCancelEndsEachOnce", fn := fun _ => fun
  | [d1, d2, d3, d4] => { results := [.lit (.bool false)], args := [d1, d2, d3, d4] }
  | _ => none }
def FnCancelEndsEachOnceWrongFalsely : Prop := fnCancelEndsEachOnceRow.holds Try.pinned (OpenSpec.ofChange fnCancelEndsEachOnceWrong)

end Rows
end Go.Proofs.Qxb6618787a
