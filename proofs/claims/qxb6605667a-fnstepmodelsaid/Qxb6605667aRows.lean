/-
  No cell of these rows narrows 'for every input' (looked for: loops, veiled, ifaces, maps, wideKeys, modest, calm, conditions, laid).
  DERIVED. THE GIVEN ROWS OF THIS SEAT. 3 by the template 'for every input the law returns true; each argument reads behind the call as it read before'; 0 by the template 'total and deterministic' (their statements: Qxb6605667aTotals.lean).
  GIVEN WITH THE SEED: the statements are not yours to turn. If you find one false, say at which input.
  Laid BY PROGRAM, IN A SANDBOX (cutbox-rows.mjs): the forced cells as the released guide's own fill.sh prints them over the translation 668bbf7f8af8abdd… (all of the seat's roots in one cut). By AI agents, Wed Nov 11 2026. No macro, syntax, notation, axiom, sorry.
-/
import Derived.Test.Qxb6605667aChecked
import GoSem.Claim
import GoSem.ClaimJoined
import GoSem.ClaimMapViews
import Derived.JoinedTies
import Derived.KernelRfl
namespace Go.Proofs.Qxb6605667a
/- THE CELL 'sum', in the pinned program and in every row, IS THE sha256 OF THE DUMP (.gsa) THAT Qxb6605667aProg.lean LOADS. Nothing in Lean hashes anything: it is a label: what it is worth is what the hold of that sum in a sandbox is worth. -/
noncomputable def Try.pinned : Pinned := { name := "qxb6605667a", sum := "668bbf7f8af8abdd3242de5cc530f5f4665e944308f991e4bf68fb00ad065d6e", checked := Try.checked }
namespace Rows
def none {H : Type} : Left H := { results := [], args := [] }

/-- 'zzlaws_internal_glob_b1.FnFirstHalfSteps': WHATEVER THE INPUT: true; the input reads as it did. -/
def fnFirstHalfStepsSpec : ChangeSpec := { name := "fnFirstHalfSteps", fn := fun _ => fun
  | [d] => { results := [.lit (.bool true)], args := [d] }
  | _ => none }
def fnFirstHalfStepsRow : OpenClaim := { program := "qxb6605667a", sum := "668bbf7f8af8abdd3242de5cc530f5f4665e944308f991e4bf68fb00ad065d6e", func := "example.com/cairn/cairn/zzlaws_internal_glob_b1.FnFirstHalfSteps", spec := "fnFirstHalfSteps", apart := false }
def FnFirstHalfStepsSaid : Prop := fnFirstHalfStepsRow.holds Try.pinned (OpenSpec.ofChange fnFirstHalfStepsSpec)

/-- ITS FALSE NEIGHBOUR: 'it returns false'. Refute it at one input. -/
def fnFirstHalfStepsWrong : ChangeSpec := { name := "fnFirstHalfSteps", fn := fun _ => fun
  | [d] => { results := [.lit (.bool false)], args := [d] }
  | _ => none }
def FnFirstHalfStepsWrongFalsely : Prop := fnFirstHalfStepsRow.holds Try.pinned (OpenSpec.ofChange fnFirstHalfStepsWrong)

/-- 'zzlaws_internal_glob_b1.FnStepModel': WHATEVER THE INPUT: true; the input reads as it did. -/
def fnStepModelSpec : ChangeSpec := { name := "fnStepModel", fn := fun _ => fun
  | [d1, d2, d3, d4, d5, d6, d7, d8, d9, d10, d11] => { results := [.lit (.bool true)], args := [d1, d2, d3, d4, d5, d6, d7, d8, d9, d10, d11] }
  | _ => none }
def fnStepModelRow : OpenClaim := { program := "qxb6605667a", sum := "668bbf7f8af8abdd3242de5cc530f5f4665e944308f991e4bf68fb00ad065d6e", func := "example.com/cairn/cairn/zzlaws_internal_glob_b1.FnStepModel", spec := "fnStepModel", inPlace := ["math/bits.Add64"], apart := false }
def FnStepModelSaid : Prop := fnStepModelRow.holds Try.pinned (OpenSpec.ofChange fnStepModelSpec)

/-- ITS FALSE NEIGHBOUR: 'it returns false'. Refute it at one input. -/
def fnStepModelWrong : ChangeSpec := { name := "fnStepModel", fn := fun _ => fun
  | [d1, d2, d3, d4, d5, d6, d7, d8, d9, d10, d11] => { results := [.lit (.bool false)], args := [d1, d2, d3, d4, d5, d6, d7, d8, d9, d10, d11] }
  | _ => none }
def FnStepModelWrongFalsely : Prop := fnStepModelRow.holds Try.pinned (OpenSpec.ofChange fnStepModelWrong)

/-- 'zzlaws_internal_glob_b1.FnStepTwoWords': WHATEVER THE INPUT: true; the input reads as it did. -/
def fnStepTwoWordsSpec : ChangeSpec := { name := "fnStepTwoWords", fn := fun _ => fun
  | [d1, d2, d3, d4, d5, d6, d7, d8, d9, d10, d11, d12] => { results := [.lit (.bool true)], args := [d1, d2, d3, d4, d5, d6, d7, d8, d9, d10, d11, d12] }
  | _ => none }
def fnStepTwoWordsRow : OpenClaim := { program := "qxb6605667a", sum := "668bbf7f8af8abdd3242de5cc530f5f4665e944308f991e4bf68fb00ad065d6e", func := "example.com/cairn/cairn/zzlaws_internal_glob_b1.FnStepTwoWords", spec := "fnStepTwoWords", inPlace := ["math/bits.Add64"], apart := false }
def FnStepTwoWordsSaid : Prop := fnStepTwoWordsRow.holds Try.pinned (OpenSpec.ofChange fnStepTwoWordsSpec)

/-- ITS FALSE NEIGHBOUR: 'it returns false'. Refute it at one input. -/
def fnStepTwoWordsWrong : ChangeSpec := { name := "fnStepTwoWords", fn := fun _ => fun
  | [d1, d2, d3, d4, d5, d6, d7, d8, d9, d10, d11, d12] => { results := [.lit (.bool false)], args := [d1, d2, d3, d4, d5, d6, d7, d8, d9, d10, d11, d12] }
  | _ => none }
def FnStepTwoWordsWrongFalsely : Prop := fnStepTwoWordsRow.holds Try.pinned (OpenSpec.ofChange fnStepTwoWordsWrong)

end Rows
end Go.Proofs.Qxb6605667a
