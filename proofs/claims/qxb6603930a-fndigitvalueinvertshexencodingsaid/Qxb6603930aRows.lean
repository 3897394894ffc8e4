/-
  No cell of these rows narrows 'for every input' (looked for: loops, veiled, ifaces, maps, wideKeys, modest, calm, conditions, laid).
  DERIVED. THE GIVEN ROWS OF THIS SEAT. 3 by the template 'for every input the law returns true; each argument reads behind the call as it read before'; 0 by the template 'total and deterministic' (their statements: Qxb6603930aTotals.lean).
  GIVEN WITH THE SEED: the statements are not yours to turn. If you find one false, say at which input.
  Laid BY PROGRAM, IN A SANDBOX (cutbox-rows.mjs): the forced cells as the released guide's own fill.sh prints them over the translation 3d91b044a90c4d8c… (all of the seat's roots in one cut). By AI agents, Wed Nov 11 2026. No macro, syntax, notation, axiom, sorry.
-/
import Derived.Test.Qxb6603930aChecked
import GoSem.Claim
import GoSem.ClaimJoined
import GoSem.ClaimMapViews
import Derived.JoinedTies
import Derived.KernelRfl
namespace Go.Proofs.Qxb6603930a
/- THE CELL 'sum', in the pinned program and in every row, IS THE sha256 OF THE DUMP (.gsa) THAT Qxb6603930aProg.lean LOADS. Nothing in Lean hashes anything: it is a label: what it is worth is what the hold of that sum in a sandbox is worth. -/
noncomputable def Try.pinned : Pinned := { name := "qxb6603930a", sum := "3d91b044a90c4d8c15f98a41e70456292f608b243bff7586eda9ee88d5de3852", checked := Try.checked }
namespace Rows
def none {H : Type} : Left H := { results := [], args := [] }

/-- 'zzlaws_scanner_b1.FnDigitValueMatchesHexTable': WHATEVER THE INPUT: true; the input reads as it did. -/
def fnDigitValueMatchesHexTableSpec : ChangeSpec := { name := "fnDigitValueMatchesHexTable", fn := fun _ => fun
  | [d] => { results := [.lit (.bool true)], args := [d] }
  | _ => none }
def fnDigitValueMatchesHexTableRow : OpenClaim := { program := "qxb6603930a", sum := "3d91b044a90c4d8c15f98a41e70456292f608b243bff7586eda9ee88d5de3852", func := "example.com/burrow/burrow/zzlaws_scanner_b1.FnDigitValueMatchesHexTable", spec := "fnDigitValueMatchesHexTable", apart := false }
def FnDigitValueMatchesHexTableSaid : Prop := fnDigitValueMatchesHexTableRow.holds Try.pinned (OpenSpec.ofChange fnDigitValueMatchesHexTableSpec)

/-- ITS FALSE NEIGHBOUR: 'it returns false'. Refute it at one input. -/
def fnDigitValueMatchesHexTableWrong : ChangeSpec := { name := "fnDigitValueMatchesHexTable", fn := fun _ => fun
  | [d] => { results := [.lit (.bool false)], args := [d] }
  | _ => none }
def FnDigitValueMatchesHexTableWrongFalsely : Prop := fnDigitValueMatchesHexTableRow.holds Try.pinned (OpenSpec.ofChange fnDigitValueMatchesHexTableWrong)

/-- 'zzlaws_scanner_b1.FnDigitValueInvertsHexEncoding': WHATEVER THE INPUT: true; the input reads as it did. -/
def fnDigitValueInvertsHexEncodingSpec : ChangeSpec := { name := "fnDigitValueInvertsHexEncoding", fn := fun _ => fun
  | [d1, d2] => { results := [.lit (.bool true)], args := [d1, d2] }
  | _ => none }
def fnDigitValueInvertsHexEncodingRow : OpenClaim := { program := "qxb6603930a", sum := "3d91b044a90c4d8c15f98a41e70456292f608b243bff7586eda9ee88d5de3852", func := "example.com/burrow/burrow/zzlaws_scanner_b1.FnDigitValueInvertsHexEncoding", spec := "fnDigitValueInvertsHexEncoding", apart := false }
def FnDigitValueInvertsHexEncodingSaid : Prop := fnDigitValueInvertsHexEncodingRow.holds Try.pinned (OpenSpec.ofChange fnDigitValueInvertsHexEncodingSpec)

/-- ITS FALSE NEIGHBOUR: 'it returns false'. Refute it at one input. -/
def fnDigitValueInvertsHexEncodingWrong : ChangeSpec := { name := "fnDigitValueInvertsHexEncoding", fn := fun _ => fun
  | [d1, d2] => { results := [.lit (.bool false)], args := [d1, d2] }
  | _ => none }
def FnDigitValueInvertsHexEncodingWrongFalsely : Prop := fnDigitValueInvertsHexEncodingRow.holds Try.pinned (OpenSpec.ofChange fnDigitValueInvertsHexEncodingWrong)

/-- 'zzlaws_scanner_b1.FnAssignOpDropsTheEquals': WHATEVER THE INPUT: true; the input reads as it did. -/
def fnAssignOpDropsTheEqualsSpec : ChangeSpec := { name := "fnAssignOpDropsTheEquals", fn := fun _ => fun
  | [d] => { results := [.lit (.bool true)], args := [d] }
  | _ => none }
def fnAssignOpDropsTheEqualsRow : OpenClaim := { program := "qxb6603930a", sum := "3d91b044a90c4d8c15f98a41e70456292f608b243bff7586eda9ee88d5de3852", func := "example.com/burrow/burrow/zzlaws_scanner_b1.FnAssignOpDropsTheEquals", spec := "fnAssignOpDropsTheEquals", apart := false }
def FnAssignOpDropsTheEqualsSaid : Prop := fnAssignOpDropsTheEqualsRow.holds Try.pinned (OpenSpec.ofChange fnAssignOpDropsTheEqualsSpec)

/-- ITS FALSE NEIGHBOUR: 'it returns false'. Refute it at one input. -/
def fnAssignOpDropsTheEqualsWrong : ChangeSpec := { name := "fnAssignOpDropsTheEquals", fn := fun _ => fun
  | [d] => { results := [.lit (.bool false)], args := [d] }
  | _ => none }
def FnAssignOpDropsTheEqualsWrongFalsely : Prop := fnAssignOpDropsTheEqualsRow.holds Try.pinned (OpenSpec.ofChange fnAssignOpDropsTheEqualsWrong)

end Rows
end Go.Proofs.Qxb6603930a
