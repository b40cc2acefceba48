/-
  No cell of these rows narrows 'for every input' (looked for: loops, veiled, ifaces, maps, wideKeys, modest, calm, conditions, laid).
  DERIVED. THE GIVEN ROWS OF THIS SEAT. 3 by the template 'for every input the law returns true; each argument reads behind the call as it read before'; 0 by the template 'total and deterministic' (their statements: Qxb6605666aTotals.lean).
  GIVEN WITH THE SEED: the statements are not yours to turn. If you find one false, say at which input.
  Laid BY PROGRAM, IN A SANDBOX (cutbox-rows.mjs): the forced cells as the released guide's own fill.sh prints them over the translation 98626b7f341f6dbf… (all of the seat's roots in one cut). By AI agents, Wed Nov 11 2026. No macro, syntax, notation, axiom, sorry.
-/
import Derived.Test.Qxb6605666aChecked
import GoSem.Claim
import GoSem.ClaimJoined
import GoSem.ClaimMapViews
import Derived.JoinedTies
import Derived.KernelRfl
namespace Go.Proofs.Qxb6605666a
/- THE CELL 'sum', in the pinned program and in every row, IS THE sha256 OF THE DUMP (.gsa) THAT Qxb6605666aProg.lean LOADS. Nothing in Lean hashes anything: it is a label: what it is worth is what the hold of that sum in a sandbox is worth. -/
noncomputable def Try.pinned : Pinned := { name := "qxb6605666a", sum := "98626b7f341f6dbf6e05e5461d27444d7ca117160e7705db36cae7b035975ecf", checked := Try.checked }
namespace Rows
def none {H : Type} : Left H := { results := [], args := [] }

/-- 'zzlaws_internal_query_b1.FnUnquoteIdentMatchesRunModel': WHATEVER THE INPUT: true; the input reads as it did. -/
def fnUnquoteIdentMatchesRunModelSpec : ChangeSpec := { name := "fnUnquoteIdentMatchesRunModel", fn := fun _ => fun
  | [d1, d2] => { results := [.lit (.bool true)], args := [d1, d2] }
  | _ => none }
def fnUnquoteIdentMatchesRunModelRow : OpenClaim := { program := "qxb6605666a", sum := "98626b7f341f6dbf6e05e5461d27444d7ca117160e7705db36cae7b035975ecf", func := "example.com/rollpoint/rollpoint/zzlaws_internal_query_b1.FnUnquoteIdentMatchesRunModel", spec := "fnUnquoteIdentMatchesRunModel", inPlace := ["internal/abi.NoEscape"], apart := false }
def FnUnquoteIdentMatchesRunModelSaid : Prop := fnUnquoteIdentMatchesRunModelRow.holds Try.pinned (OpenSpec.ofChange fnUnquoteIdentMatchesRunModelSpec)

/-- ITS FALSE NEIGHBOUR: 'it returns false'. Refute it at one input. -/
def fnUnquoteIdentMatchesRunModelWrong : ChangeSpec := { name := "fnUnquoteIdentMatchesRunModel", fn := fun _ => fun
  | [d1, d2] => { results := [.lit (.bool false)], args := [d1, d2] }
  | _ => none }
def FnUnquoteIdentMatchesRunModelWrongFalsely : Prop := fnUnquoteIdentMatchesRunModelRow.holds Try.pinned (OpenSpec.ofChange fnUnquoteIdentMatchesRunModelWrong)

/-- 'zzlaws_internal_query_b1.FnUnquoteIdentQuoteRoundTrip': WHATEVER THE INPUT: true; the input reads as it did. -/
def fnUnquoteIdentQuoteRoundTripSpec : ChangeSpec := { name := "fnUnquoteIdentQuoteRoundTrip", fn := fun _ => fun
  | [d1, d2, d3] => { results := [.lit (.bool true)], args := [d1, d2, d3] }
  | _ => none }
def fnUnquoteIdentQuoteRoundTripRow : OpenClaim := { program := "qxb6605666a", sum := "98626b7f341f6dbf6e05e5461d27444d7ca117160e7705db36cae7b035975ecf", func := "example.com/rollpoint/rollpoint/zzlaws_internal_query_b1.FnUnquoteIdentQuoteRoundTrip", spec := "fnUnquoteIdentQuoteRoundTrip", inPlace := ["internal/abi.NoEscape"], apart := false }
def FnUnquoteIdentQuoteRoundTripSaid : Prop := fnUnquoteIdentQuoteRoundTripRow.holds Try.pinned (OpenSpec.ofChange fnUnquoteIdentQuoteRoundTripSpec)

/-- ITS FALSE NEIGHBOUR: 'it returns false'. Refute it at one input. -/
def fnUnquoteIdentQuoteRoundTripWrong : ChangeSpec := { name := "fnUnquoteIdentQuoteRoundTrip", fn := fun _ => fun
  | [d1, d2, d3] => { results := [.lit (.bool false)], args := [d1, d2, d3] }
  | _ => none }
def FnUnquoteIdentQuoteRoundTripWrongFalsely : Prop := fnUnquoteIdentQuoteRoundTripRow.holds Try.pinned (OpenSpec.ofChange fnUnquoteIdentQuoteRoundTripWrong)

/-- 'zzlaws_internal_query_b1.FnTableNameStringCutsBack': WHATEVER THE INPUT: true; the input reads as it did. -/
def fnTableNameStringCutsBackSpec : ChangeSpec := { name := "fnTableNameStringCutsBack", fn := fun _ => fun
  | [d1, d2] => { results := [.lit (.bool true)], args := [d1, d2] }
  | _ => none }
def fnTableNameStringCutsBackRow : OpenClaim := { program := "qxb6605666a", sum := "98626b7f341f6dbf6e05e5461d27444d7ca117160e7705db36cae7b035975ecf", func := "example.com/rollpoint/rollpoint/zzlaws_internal_query_b1.FnTableNameStringCutsBack", spec := "fnTableNameStringCutsBack", apart := false }
def FnTableNameStringCutsBackSaid : Prop := fnTableNameStringCutsBackRow.holds Try.pinned (OpenSpec.ofChange fnTableNameStringCutsBackSpec)

/-- ITS FALSE NEIGHBOUR: 'it returns false'. Refute it at one input. -/
def fnTableNameStringCutsBackWrong : ChangeSpec := { name := "fnTableNameStringCutsBack", fn := fun _ => fun
  | [d1, d2] => { results := [.lit (.bool false)], args := [d1, d2] }
  | _ => none }
def FnTableNameStringCutsBackWrongFalsely : Prop := fnTableNameStringCutsBackRow.holds Try.pinned (OpenSpec.ofChange fnTableNameStringCutsBackWrong)

end Rows
end Go.Proofs.Qxb6605666a
