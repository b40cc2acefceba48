/-
  No cell of these rows narrows 'for every input' (looked for: loops, veiled, ifaces, maps, wideKeys, modest, calm, conditions, laid).
  DERIVED. THE GIVEN ROWS OF THIS SEAT. 6 by the template 'for every input the law returns true; each argument reads behind the call as it read before'; 0 by the template 'total and deterministic' (their statements: Qxb6605989aTotals.lean).
  GIVEN WITH THE SEED: the statements are not yours to turn. If you find one false, say at which input.
  Laid BY PROGRAM, IN A SANDBOX (cutbox-rows.mjs): the forced cells as the released guide's own fill.sh prints them over the translation 6fd1c32bed895456… (all of the seat's roots in one cut). By AI agents, Wed Nov 11 2026. No macro, syntax, notation, axiom, sorry.
-/
import Derived.Test.Qxb6605989aChecked
import GoSem.Claim
import GoSem.ClaimJoined
import GoSem.ClaimMapViews
import Derived.JoinedTies
import Derived.KernelRfl
namespace Go.Proofs.Qxb6605989a
/- THE CELL 'sum', in the pinned program and in every row, IS THE sha256 OF THE DUMP (.gsa) THAT Qxb6605989aProg.lean LOADS. Nothing in Lean hashes anything: it is a label: what it is worth is what the hold of that sum in a sandbox is worth. -/
noncomputable def Try.pinned : Pinned := { name := "qxb6605989a", sum := "6fd1c32bed895456c42fcc4b66a51952c38e6db1f7e1bcedf82d231a8ba5c760", checked := Try.checked }
namespace Rows
def none {H : Type} : Left H := { results := [], args := [] }

/-- 'zzlaws_policy_b1.FnSpanOfCountsLadderAmounts': WHATEVER THE INPUT: true; the input reads as it did. -/
def fnSpanOfCountsLadderAmountsSpec : ChangeSpec := { name := "fnSpanOfCountsLadderAmounts", fn := fun _ => fun
  | [d1, d2, d3, d4, d5] => { results := [.lit (.bool true)], args := [d1, d2, d3, d4, d5] }
  | _ => none }
def fnSpanOfCountsLadderAmountsRow : OpenClaim := { program := "qxb6605989a", sum := "6fd1c32bed895456c42fcc4b66a51952c38e6db1f7e1bcedf82d231a8ba5c760", func := "example.com/packwright/packwright/zzlaws_policy_b1.FnSpanOfCountsLadderAmounts", spec := "fnSpanOfCountsLadderAmounts", plainKeys := false, apart := false }
def FnSpanOfCountsLadderAmountsSaid : Prop := fnSpanOfCountsLadderAmountsRow.holds Try.pinned (OpenSpec.ofChange fnSpanOfCountsLadderAmountsSpec)

/-- ITS FALSE NEIGHBOUR: 'it returns false'. Refute it at one input. -/
def fnSpanOfCountsLadderAmountsWrong : ChangeSpec := { name := "fnSpanOfCountsLadderAmounts", fn := fun _ => fun
  | [d1, d2, d3, d4, d5] => { results := [.lit (.bool false)], args := [d1, d2, d3, d4, d5] }
  | _ => none }
def FnSpanOfCountsLadderAmountsWrongFalsely : Prop := fnSpanOfCountsLadderAmountsRow.holds Try.pinned (OpenSpec.ofChange fnSpanOfCountsLadderAmountsWrong)

/-- 'zzlaws_policy_b1.FnSpanOfBracketsAmounts': WHATEVER THE INPUT: true; the input reads as it did. -/
def fnSpanOfBracketsAmountsSpec : ChangeSpec := { name := "fnSpanOfBracketsAmounts", fn := fun _ => fun
  | [d1, d2, d3, d4, d5] => { results := [.lit (.bool true)], args := [d1, d2, d3, d4, d5] }
  | _ => none }
def fnSpanOfBracketsAmountsRow : OpenClaim := { program := "qxb6605989a", sum := "6fd1c32bed895456c42fcc4b66a51952c38e6db1f7e1bcedf82d231a8ba5c760", func := "example.com/packwright/packwright/zzlaws_policy_b1.FnSpanOfBracketsAmounts", spec := "fnSpanOfBracketsAmounts", plainKeys := false, apart := false }
def FnSpanOfBracketsAmountsSaid : Prop := fnSpanOfBracketsAmountsRow.holds Try.pinned (OpenSpec.ofChange fnSpanOfBracketsAmountsSpec)

/-- ITS FALSE NEIGHBOUR: 'it returns false'. Refute it at one input. -/
def fnSpanOfBracketsAmountsWrong : ChangeSpec := { name := "fnSpanOfBracketsAmounts", fn := fun _ => fun
  | [d1, d2, d3, d4, d5] => { results := [.lit (.bool false)], args := [d1, d2, d3, d4, d5] }
  | _ => none }
def FnSpanOfBracketsAmountsWrongFalsely : Prop := fnSpanOfBracketsAmountsRow.holds Try.pinned (OpenSpec.ofChange fnSpanOfBracketsAmountsWrong)

/-- 'zzlaws_policy_b1.FnHullPutMarksPath': WHATEVER THE INPUT: true; the input reads as it did. -/
def fnHullPutMarksPathSpec : ChangeSpec := { name := "fnHullPutMarksPath", fn := fun _ => fun
  | [d1, d2, d3, d4, d5, d6] => { results := [.lit (.bool true)], args := [d1, d2, d3, d4, d5, d6] }
  | _ => none }
def fnHullPutMarksPathRow : OpenClaim := { program := "qxb6605989a", sum := "6fd1c32bed895456c42fcc4b66a51952c38e6db1f7e1bcedf82d231a8ba5c760", func := "example.com/packwright/packwright/zzlaws_policy_b1.FnHullPutMarksPath", spec := "fnHullPutMarksPath", plainKeys := false, apart := false }
def FnHullPutMarksPathSaid : Prop := fnHullPutMarksPathRow.holds Try.pinned (OpenSpec.ofChange fnHullPutMarksPathSpec)

/-- ITS FALSE NEIGHBOUR: 'it returns false'. Refute it at one input. -/
def fnHullPutMarksPathWrong : ChangeSpec := { name := "fnHullPutMarksPath", fn := fun _ => fun
  | [d1, d2, d3, d4, d5, d6] => { results := [.lit (.bool false)], args := [d1, d2, d3, d4, d5, d6] }
  | _ => none }
def FnHullPutMarksPathWrongFalsely : Prop := fnHullPutMarksPathRow.holds Try.pinned (OpenSpec.ofChange fnHullPutMarksPathWrong)

/-- 'zzlaws_policy_b1.FnHullPutScriptKeepsStaleClosed': WHATEVER THE INPUT: true; the input reads as it did. -/
def fnHullPutScriptKeepsStaleClosedSpec : ChangeSpec := { name := "fnHullPutScriptKeepsStaleClosed", fn := fun _ => fun
  | [d1, d2, d3, d4, d5, d6, d7, d8] => { results := [.lit (.bool true)], args := [d1, d2, d3, d4, d5, d6, d7, d8] }
  | _ => none }
def fnHullPutScriptKeepsStaleClosedRow : OpenClaim := { program := "qxb6605989a", sum := "6fd1c32bed895456c42fcc4b66a51952c38e6db1f7e1bcedf82d231a8ba5c760", func := "example.com/packwright/packwright/zzlaws_policy_b1.FnHullPutScriptKeepsStaleClosed", spec := "fnHullPutScriptKeepsStaleClosed", plainKeys := false, apart := false }
def FnHullPutScriptKeepsStaleClosedSaid : Prop := fnHullPutScriptKeepsStaleClosedRow.holds Try.pinned (OpenSpec.ofChange fnHullPutScriptKeepsStaleClosedSpec)

/-- ITS FALSE NEIGHBOUR: 'it returns false'. Refute it at one input. -/
def fnHullPutScriptKeepsStaleClosedWrong : ChangeSpec := { name := "fnHullPutScriptKeepsStaleClosed", fn := fun _ => fun
  | [d1, d2, d3, d4, d5, d6, d7, d8] => { results := [.lit (.bool false)], args := [d1, d2, d3, d4, d5, d6, d7, d8] }
  | _ => none }
def FnHullPutScriptKeepsStaleClosedWrongFalsely : Prop := fnHullPutScriptKeepsStaleClosedRow.holds Try.pinned (OpenSpec.ofChange fnHullPutScriptKeepsStaleClosedWrong)

/-- 'zzlaws_policy_b1.FnLeftBeforeMatchesStableOrder': WHATEVER THE INPUT: true; the input reads as it did. -/
def fnLeftBeforeMatchesStableOrderSpec : ChangeSpec := { name := "fnLeftBeforeMatchesStableOrder", fn := fun _ => fun
  | [d1, d2, d3, d4] => { results := [.lit (.bool true)], args := [d1, d2, d3, d4] }
  | _ => none }
def fnLeftBeforeMatchesStableOrderRow : OpenClaim := { program := "qxb6605989a", sum := "6fd1c32bed895456c42fcc4b66a51952c38e6db1f7e1bcedf82d231a8ba5c760", func := "example.com/packwright/packwright/zzlaws_policy_b1.FnLeftBeforeMatchesStableOrder", spec := "fnLeftBeforeMatchesStableOrder", plainKeys := false, apart := false }
def FnLeftBeforeMatchesStableOrderSaid : Prop := fnLeftBeforeMatchesStableOrderRow.holds Try.pinned (OpenSpec.ofChange fnLeftBeforeMatchesStableOrderSpec)

/-- ITS FALSE NEIGHBOUR: 'it returns false'. Refute it at one input. -/
def fnLeftBeforeMatchesStableOrderWrong : ChangeSpec := { name := "fnLeftBeforeMatchesStableOrder", fn := fun _ => fun
  | [d1, d2, d3, d4] => { results := [.lit (.bool false)], args := [d1, d2, d3, d4] }
  | _ => none }
def FnLeftBeforeMatchesStableOrderWrongFalsely : Prop := fnLeftBeforeMatchesStableOrderRow.holds Try.pinned (OpenSpec.ofChange fnLeftBeforeMatchesStableOrderWrong)

/-- 'zzlaws_policy_b1.FnLeftBeforeSortsStably': WHATEVER THE INPUT: true; the input reads as it did. -/
def fnLeftBeforeSortsStablySpec : ChangeSpec := { name := "fnLeftBeforeSortsStably", fn := fun _ => fun
  | [d1, d2] => { results := [.lit (.bool true)], args := [d1, d2] }
  | _ => none }
def fnLeftBeforeSortsStablyRow : OpenClaim := { program := "qxb6605989a", sum := "6fd1c32bed895456c42fcc4b66a51952c38e6db1f7e1bcedf82d231a8ba5c760", func := "example.com/packwright/packwright/zzlaws_policy_b1.FnLeftBeforeSortsStably", spec := "fnLeftBeforeSortsStably", plainKeys := false, apart := false }
def FnLeftBeforeSortsStablySaid : Prop := fnLeftBeforeSortsStablyRow.holds Try.pinned (OpenSpec.ofChange fnLeftBeforeSortsStablySpec)

/-- ITS FALSE NEIGHBOUR: 'it returns false'. Refute it at one input. -/
def fnLeftBeforeSortsStablyWrong : ChangeSpec := { name := "fnLeftBeforeSortsStably", fn := fun _ => fun
  | [d1, d2] => { results := [.lit (.bool false)], args := [d1, d2] }
  | _ => none }
def FnLeftBeforeSortsStablyWrongFalsely : Prop := fnLeftBeforeSortsStablyRow.holds Try.pinned (OpenSpec.ofChange fnLeftBeforeSortsStablyWrong)

end Rows
end Go.Proofs.Qxb6605989a
