/-
  No cell of these rows narrows 'for every input' (looked for: loops, veiled, ifaces, maps, wideKeys, modest, calm, conditions, laid).
  DERIVED. THE GIVEN ROWS OF THIS SEAT. 4 by the template 'for every input the law returns true; each argument reads behind the call as it read before'; 0 by the template 'total and deterministic' (their statements: Qxb6603037aTotals.lean).
  GIVEN WITH THE SEED: the statements are not yours to turn. If you find one false, say at which input.
  Laid BY PROGRAM, IN A SANDBOX (cutbox-rows.mjs): the forced cells as the released guide's own fill.sh prints them over the translation ff383c1d3c355f29… (all of the seat's roots in one cut). By AI agents, Wed Nov 11 2026. No macro, syntax, notation, axiom, sorry.
-/
import Derived.Test.Qxb6603037aChecked
import GoSem.Claim
import GoSem.ClaimJoined
import GoSem.ClaimMapViews
import Derived.JoinedTies
import Derived.KernelRfl
namespace Go.Proofs.Qxb6603037a
/- THE CELL 'sum', in the pinned program and in every row, IS THE sha256 OF THE DUMP (.gsa) THAT Qxb6603037aProg.lean LOADS. Nothing in Lean hashes anything: it is a label: what it is worth is what the hold of that sum in a sandbox is worth. -/
noncomputable def Try.pinned : Pinned := { name := "qxb6603037a", sum := "ff383c1d3c355f29f83a60bbdf3d5c3dbddfd3984365e6f10ef7ed852334296f", checked := Try.checked }
namespace Rows
def none {H : Type} : Left H := { results := [], args := [] }

/-- 'zzlaws_internal_engine_b1.FnValidStringMatchesStateMachine': WHATEVER THE INPUT: true; the input reads as it did. -/
def fnValidStringMatchesStateMachineSpec : ChangeSpec := { name := "fnValidStringMatchesStateMachine", fn := fun _ => fun
  | [d1, d2] => { results := [.lit (.bool true)], args := [d1, d2] }
  | _ => none }
def fnValidStringMatchesStateMachineRow : OpenClaim := { program := "qxb6603037a", sum := "ff383c1d3c355f29f83a60bbdf3d5c3dbddfd3984365e6f10ef7ed852334296f", func := "example.com/countercheck/countercheck/zzlaws_internal_engine_b1.FnValidStringMatchesStateMachine", spec := "fnValidStringMatchesStateMachine", apart := false }
def FnValidStringMatchesStateMachineSaid : Prop := fnValidStringMatchesStateMachineRow.holds Try.pinned (OpenSpec.ofChange fnValidStringMatchesStateMachineSpec)

/-- ITS FALSE NEIGHBOUR: 'it returns false'. Refute it at one input. -/
def fnValidStringMatchesStateMachineWrong : ChangeSpec := { name := "fnValidStringMatchesStateMachine", fn := fun _ => fun
  | [d1, d2] => { results := [.lit (.bool false)], args := [d1, d2] }
  | _ => none }
def FnValidStringMatchesStateMachineWrongFalsely : Prop := fnValidStringMatchesStateMachineRow.holds Try.pinned (OpenSpec.ofChange fnValidStringMatchesStateMachineWrong)

/-- 'zzlaws_internal_engine_b1.FnValidNumberMatchesAutomaton': WHATEVER THE INPUT: true; the input reads as it did. -/
def fnValidNumberMatchesAutomatonSpec : ChangeSpec := { name := "fnValidNumberMatchesAutomaton", fn := fun _ => fun
  | [d1, d2] => { results := [.lit (.bool true)], args := [d1, d2] }
  | _ => none }
def fnValidNumberMatchesAutomatonRow : OpenClaim := { program := "qxb6603037a", sum := "ff383c1d3c355f29f83a60bbdf3d5c3dbddfd3984365e6f10ef7ed852334296f", func := "example.com/countercheck/countercheck/zzlaws_internal_engine_b1.FnValidNumberMatchesAutomaton", spec := "fnValidNumberMatchesAutomaton", apart := false }
def FnValidNumberMatchesAutomatonSaid : Prop := fnValidNumberMatchesAutomatonRow.holds Try.pinned (OpenSpec.ofChange fnValidNumberMatchesAutomatonSpec)

/-- ITS FALSE NEIGHBOUR: 'it returns false'. Refute it at one input. -/
def fnValidNumberMatchesAutomatonWrong : ChangeSpec := { name := "fnValidNumberMatchesAutomaton", fn := fun _ => fun
  | [d1, d2] => { results := [.lit (.bool false)], args := [d1, d2] }
  | _ => none }
def FnValidNumberMatchesAutomatonWrongFalsely : Prop := fnValidNumberMatchesAutomatonRow.holds Try.pinned (OpenSpec.ofChange fnValidNumberMatchesAutomatonWrong)

/-- 'zzlaws_internal_engine_b1.FnValueMatchesPushdownParser': WHATEVER THE INPUT: true; the input reads as it did. -/
def fnValueMatchesPushdownParserSpec : ChangeSpec := { name := "fnValueMatchesPushdownParser", fn := fun _ => fun
  | [d1, d2] => { results := [.lit (.bool true)], args := [d1, d2] }
  | _ => none }
def fnValueMatchesPushdownParserRow : OpenClaim := { program := "qxb6603037a", sum := "ff383c1d3c355f29f83a60bbdf3d5c3dbddfd3984365e6f10ef7ed852334296f", func := "example.com/countercheck/countercheck/zzlaws_internal_engine_b1.FnValueMatchesPushdownParser", spec := "fnValueMatchesPushdownParser", apart := false }
def FnValueMatchesPushdownParserSaid : Prop := fnValueMatchesPushdownParserRow.holds Try.pinned (OpenSpec.ofChange fnValueMatchesPushdownParserSpec)

/-- ITS FALSE NEIGHBOUR: 'it returns false'. Refute it at one input. -/
def fnValueMatchesPushdownParserWrong : ChangeSpec := { name := "fnValueMatchesPushdownParser", fn := fun _ => fun
  | [d1, d2] => { results := [.lit (.bool false)], args := [d1, d2] }
  | _ => none }
def FnValueMatchesPushdownParserWrongFalsely : Prop := fnValueMatchesPushdownParserRow.holds Try.pinned (OpenSpec.ofChange fnValueMatchesPushdownParserWrong)

/-- 'zzlaws_internal_engine_b1.FnValueRereadsItsOwnText': WHATEVER THE INPUT: true; the input reads as it did. -/
def fnValueRereadsItsOwnTextSpec : ChangeSpec := { name := "fnValueRereadsItsOwnText", fn := fun _ => fun
  | [d1, d2] => { results := [.lit (.bool true)], args := [d1, d2] }
  | _ => none }
def fnValueRereadsItsOwnTextRow : OpenClaim := { program := "qxb6603037a", sum := "ff383c1d3c355f29f83a60bbdf3d5c3dbddfd3984365e6f10ef7ed852334296f", func := "example.com/countercheck/countercheck/zzlaws_internal_engine_b1.FnValueRereadsItsOwnText", spec := "fnValueRereadsItsOwnText", apart := false }
def FnValueRereadsItsOwnTextSaid : Prop := fnValueRereadsItsOwnTextRow.holds Try.pinned (OpenSpec.ofChange fnValueRereadsItsOwnTextSpec)

/-- ITS FALSE NEIGHBOUR: 'it returns false'. Refute it at one input. -/
def fnValueRereadsItsOwnTextWrong : ChangeSpec := { name := "fnValueRereadsItsOwnText", fn := fun _ => fun
  | [d1, d2] => { results := [.lit (.bool false)], args := [d1, d2] }
  | _ => none }
def FnValueRereadsItsOwnTextWrongFalsely : Prop := fnValueRereadsItsOwnTextRow.holds Try.pinned (OpenSpec.ofChange fnValueRereadsItsOwnTextWrong)

end Rows
end Go.Proofs.Qxb6603037a
