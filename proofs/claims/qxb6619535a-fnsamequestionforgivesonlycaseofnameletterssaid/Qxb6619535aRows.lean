/-
  No cell of these rows narrows 'for every input' (looked for: loops, veiled, ifaces, maps, wideKeys, modest, calm, conditions, laid).
  DERIVED. THE GIVEN ROWS OF THIS SEAT. 2 by the template 'for every input the law returns true; each argument reads behind the call as it read before'; 0 by the template 'total and deterministic' (their statements: Qxb6619535aTotals.lean).
  GIVEN WITH THE SEED: the statements are not yours to turn. If you find one false, say at which input.
  Laid BY PROGRAM, IN A SANDBOX (cutbox-rows.mjs): the forced cells as the released guide's own fill.sh prints them over the translation 48a93f2a2b224e9e… (all of the seat's roots in one cut). By AI agents, Wed Nov 11 2026. No macro, syntax, notation, axiom, sorry.
-/
import Derived.Test.Qxb6619535aChecked
import GoSem.Claim
import GoSem.ClaimJoined
import GoSem.ClaimMapViews
import Derived.JoinedTies
import Derived.KernelRfl
namespace Go.Proofs.Qxb6619535a
/- THE CELL 'sum', in the pinned program and in every row, IS THE sha256 OF THE DUMP (.gsa) THAT Qxb6619535aProg.lean LOADS. Nothing in Lean hashes anything: it is a label: what it is worth is what the hold of that sum in a sandbox is worth. -/
noncomputable def Try.pinned : Pinned := { name := "qxb6619535a", sum := "48a93f2a2b224e9eb83b03a94e179001952b3be24fd621c68658aefe21e5c75b", checked := Try.checked }
namespace Rows
def none {H : Type} : Left H := { results := [], args := [] }

/-- 'zzlaws_internal_dnswire_b1.FnLowerFoldsCasePairs': WHATEVER THE INPUT: true; the input reads as it did. -/
def fnLowerFoldsCasePairsSpec : ChangeSpec := { name := "fnLowerFoldsCasePairs", fn := fun _ => fun
  | [d1, d2] => { results := [.lit (.bool true)], args := [d1, d2] }
  | _ => none }
def fnLowerFoldsCasePairsRow : OpenClaim := { program := "qxb6619535a", sum := "48a93f2a2b224e9eb83b03a94e179001952b3be24fd621c68658aefe21e5c75b", func := "example.com/waymark/waymark/zzlaws_internal_dnswire_b1.FnLowerFoldsCasePairs", spec := "fnLowerFoldsCasePairs", apart := false }
def FnLowerFoldsCasePairsSaid : Prop := fnLowerFoldsCasePairsRow.holds Try.pinned (OpenSpec.ofChange fnLowerFoldsCasePairsSpec)

/-- ITS FALSE NEIGHBOUR: 'it returns false'. Refute it at one input. -/
def fnLowerFoldsCasePairsWrong : ChangeSpec := { name := "fnLowerFoldsCasePairs", fn := fun _ => fun
  | [d1, d2] => { results := [.lit (.bool false)], args := [d1, d2] }
  | _ => none }
def FnLowerFoldsCasePairsWrongFalsely : Prop := fnLowerFoldsCasePairsRow.holds Try.pinned (OpenSpec.ofChange fnLowerFoldsCasePairsWrong)

/-- 'zzlaws_internal_dnswire_b1.FnSameQuestionForgivesOnlyCaseOfNameLetters': WHATEVER THE INPUT: true; the input reads as it did. -/
def fnSameQuestionForgivesOnlyCaseOfNameLettersSpec : ChangeSpec := { name := "fnSameQuestionForgivesOnlyCaseOfNameLetters", fn := fun _ => fun
  | [d1, d2, d3, d4] => { results := [.lit (.bool true)], args := [d1, d2, d3, d4] }
  | _ => none }
def fnSameQuestionForgivesOnlyCaseOfNameLettersRow : OpenClaim := { program := "qxb6619535a", sum := "48a93f2a2b224e9eb83b03a94e179001952b3be24fd621c68658aefe21e5c75b", func := "example.com/waymark/waymark/zzlaws_internal_dnswire_b1.FnSameQuestionForgivesOnlyCaseOfNameLetters", spec := "fnSameQuestionForgivesOnlyCaseOfNameLetters", apart := false }
def FnSameQuestionForgivesOnlyCaseOfNameLettersSaid : Prop := fnSameQuestionForgivesOnlyCaseOfNameLettersRow.holds Try.pinned (OpenSpec.ofChange fnSameQuestionForgivesOnlyCaseOfNameLettersSpec)

/-- ITS FALSE NEIGHBOUR: 'it returns false'. Refute it at one input. -/
def fnSameQuestionForgivesOnlyCaseOfNameLettersWrong : ChangeSpec := { name := "fnSameQuestionForgivesOnlyCaseOfNameLetters", fn := fun _ => fun
  | [d1, d2, d3, d4] => { results := [.lit (.bool false)], args := [d1, d2, d3, d4] }
  | _ => none }
def FnSameQuestionForgivesOnlyCaseOfNameLettersWrongFalsely : Prop := fnSameQuestionForgivesOnlyCaseOfNameLettersRow.holds Try.pinned (OpenSpec.ofChange fnSameQuestionForgivesOnlyCaseOfNameLettersWrong)

end Rows
end Go.Proofs.Qxb6619535a
