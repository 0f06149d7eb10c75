/-
  No cell of these rows narrows 'for every input' (looked for: loops, veiled, ifaces, maps, wideKeys, modest, calm, conditions, laid).
  DERIVED. THE GIVEN ROWS OF THIS SEAT. 5 by the template 'for every input the law returns true; each argument reads behind the call as it read before'; 0 by the template 'total and deterministic' (their statements: Qxb6619281aTotals.lean).
  GIVEN WITH THE SEED: the statements are not yours to turn. If you find one false, say at which input.
  Laid BY PROGRAM, IN A SANDBOX (cutbox-rows.mjs): the forced cells as the released guide's own fill.sh prints them over the translation 1a0d77cc19a8fa12… (all of the seat's roots in one cut). By AI agents, Wed Nov 11 2026. No macro, syntax, notation, axiom, sorry.
-/
import Derived.Test.Qxb6619281aChecked
import GoSem.Claim
import GoSem.ClaimJoined
import GoSem.ClaimMapViews
import Derived.JoinedTies
import Derived.KernelRfl
namespace Go.Proofs.Qxb6619281a
/- THE CELL 'sum', in the pinned program and in every row, IS THE sha256 OF THE DUMP (.gsa) THAT Qxb6619281aProg.lean LOADS. Nothing in Lean hashes anything: it is a label: what it is worth is what the hold of that sum in a sandbox is worth. -/
noncomputable def Try.pinned : Pinned := { name := "qxb6619281a", sum := "1a0d77cc19a8fa12c8ce7707660e4c7aa2d064c9726eb04df9623f842680d5e2", checked := Try.checked }
namespace Rows
def none {H : Type} : Left H := { results := [], args := [] }

/-- 'zzlaws_jsonwalk_b1.FnStringEndMatchesEscapeAutomaton': WHATEVER THE INPUT: true; the input reads as it did. -/
def fnStringEndMatchesEscapeAutomatonSpec : ChangeSpec := { name := "fnStringEndMatchesEscapeAutomaton", fn := fun _ => fun
  | [d1, d2] => { results := [.lit (.bool true)], args := [d1, d2] }
  | _ => none }
def fnStringEndMatchesEscapeAutomatonRow : OpenClaim := { program := "qxb6619281a", sum := "1a0d77cc19a8fa12c8ce7707660e4c7aa2d064c9726eb04df9623f842680d5e2", func := "example.com/logsieve/logsieve/zzlaws_jsonwalk_b1.FnStringEndMatchesEscapeAutomaton", spec := "fnStringEndMatchesEscapeAutomaton", inPlace := ["internal/bytealg.IndexByte"], apart := false }
def FnStringEndMatchesEscapeAutomatonSaid : Prop := fnStringEndMatchesEscapeAutomatonRow.holds Try.pinned (OpenSpec.ofChange fnStringEndMatchesEscapeAutomatonSpec)

/-- ITS FALSE NEIGHBOUR: 'it returns false'. Refute it at one input. -/
def fnStringEndMatchesEscapeAutomatonWrong : ChangeSpec := { name := "fnStringEndMatchesEscapeAutomaton", fn := fun _ => fun
  | [d1, d2] => { results := [.lit (.bool false)], args := [d1, d2] }
  | _ => none }
def FnStringEndMatchesEscapeAutomatonWrongFalsely : Prop := fnStringEndMatchesEscapeAutomatonRow.holds Try.pinned (OpenSpec.ofChange fnStringEndMatchesEscapeAutomatonWrong)

/-- 'zzlaws_jsonwalk_b1.FnValueEndMatchesTokenAutomaton': WHATEVER THE INPUT: true; the input reads as it did. -/
def fnValueEndMatchesTokenAutomatonSpec : ChangeSpec := { name := "fnValueEndMatchesTokenAutomaton", fn := fun _ => fun
  | [d1, d2] => { results := [.lit (.bool true)], args := [d1, d2] }
  | _ => none }
def fnValueEndMatchesTokenAutomatonRow : OpenClaim := { program := "qxb6619281a", sum := "1a0d77cc19a8fa12c8ce7707660e4c7aa2d064c9726eb04df9623f842680d5e2", func := "example.com/logsieve/logsieve/zzlaws_jsonwalk_b1.FnValueEndMatchesTokenAutomaton", spec := "fnValueEndMatchesTokenAutomaton", inPlace := ["internal/bytealg.IndexByte"], apart := false }
def FnValueEndMatchesTokenAutomatonSaid : Prop := fnValueEndMatchesTokenAutomatonRow.holds Try.pinned (OpenSpec.ofChange fnValueEndMatchesTokenAutomatonSpec)

/-- ITS FALSE NEIGHBOUR: 'it returns false'. Refute it at one input. -/
def fnValueEndMatchesTokenAutomatonWrong : ChangeSpec := { name := "fnValueEndMatchesTokenAutomaton", fn := fun _ => fun
  | [d1, d2] => { results := [.lit (.bool false)], args := [d1, d2] }
  | _ => none }
def FnValueEndMatchesTokenAutomatonWrongFalsely : Prop := fnValueEndMatchesTokenAutomatonRow.holds Try.pinned (OpenSpec.ofChange fnValueEndMatchesTokenAutomatonWrong)

/-- 'zzlaws_jsonwalk_b1.FnValueEndCutAtAnyPrefix': WHATEVER THE INPUT: true; the input reads as it did. -/
def fnValueEndCutAtAnyPrefixSpec : ChangeSpec := { name := "fnValueEndCutAtAnyPrefix", fn := fun _ => fun
  | [d1, d2, d3] => { results := [.lit (.bool true)], args := [d1, d2, d3] }
  | _ => none }
def fnValueEndCutAtAnyPrefixRow : OpenClaim := { program := "qxb6619281a", sum := "1a0d77cc19a8fa12c8ce7707660e4c7aa2d064c9726eb04df9623f842680d5e2", func := "example.com/logsieve/logsieve/zzlaws_jsonwalk_b1.FnValueEndCutAtAnyPrefix", spec := "fnValueEndCutAtAnyPrefix", inPlace := ["internal/bytealg.IndexByte"], apart := false }
def FnValueEndCutAtAnyPrefixSaid : Prop := fnValueEndCutAtAnyPrefixRow.holds Try.pinned (OpenSpec.ofChange fnValueEndCutAtAnyPrefixSpec)

/-- ITS FALSE NEIGHBOUR: 'it returns false'. Refute it at one input. -/
def fnValueEndCutAtAnyPrefixWrong : ChangeSpec := { name := "fnValueEndCutAtAnyPrefix", fn := fun _ => fun
  | [d1, d2, d3] => { results := [.lit (.bool false)], args := [d1, d2, d3] }
  | _ => none }
def FnValueEndCutAtAnyPrefixWrongFalsely : Prop := fnValueEndCutAtAnyPrefixRow.holds Try.pinned (OpenSpec.ofChange fnValueEndCutAtAnyPrefixWrong)

/-- 'zzlaws_jsonwalk_b1.FnSkipLeadingWhitespaceShiftsAnswer': WHATEVER THE INPUT: true; the input reads as it did. -/
def fnSkipLeadingWhitespaceShiftsAnswerSpec : ChangeSpec := { name := "fnSkipLeadingWhitespaceShiftsAnswer", fn := fun _ => fun
  | [d1, d2, d3, d4, d5] => { results := [.lit (.bool true)], args := [d1, d2, d3, d4, d5] }
  | _ => none }
def fnSkipLeadingWhitespaceShiftsAnswerRow : OpenClaim := { program := "qxb6619281a", sum := "1a0d77cc19a8fa12c8ce7707660e4c7aa2d064c9726eb04df9623f842680d5e2", func := "example.com/logsieve/logsieve/zzlaws_jsonwalk_b1.FnSkipLeadingWhitespaceShiftsAnswer", spec := "fnSkipLeadingWhitespaceShiftsAnswer", apart := false }
def FnSkipLeadingWhitespaceShiftsAnswerSaid : Prop := fnSkipLeadingWhitespaceShiftsAnswerRow.holds Try.pinned (OpenSpec.ofChange fnSkipLeadingWhitespaceShiftsAnswerSpec)

/-- ITS FALSE NEIGHBOUR: 'it returns false'. Refute it at one input. -/
def fnSkipLeadingWhitespaceShiftsAnswerWrong : ChangeSpec := { name := "fnSkipLeadingWhitespaceShiftsAnswer", fn := fun _ => fun
  | [d1, d2, d3, d4, d5] => { results := [.lit (.bool false)], args := [d1, d2, d3, d4, d5] }
  | _ => none }
def FnSkipLeadingWhitespaceShiftsAnswerWrongFalsely : Prop := fnSkipLeadingWhitespaceShiftsAnswerRow.holds Try.pinned (OpenSpec.ofChange fnSkipLeadingWhitespaceShiftsAnswerWrong)

/-- 'zzlaws_jsonwalk_b1.FnStringEndCutAtAnyPrefix': WHATEVER THE INPUT: true; the input reads as it did. -/
def fnStringEndCutAtAnyPrefixSpec : ChangeSpec := { name := "fnStringEndCutAtAnyPrefix", fn := fun _ => fun
  | [d1, d2, d3] => { results := [.lit (.bool true)], args := [d1, d2, d3] }
  | _ => none }
def fnStringEndCutAtAnyPrefixRow : OpenClaim := { program := "qxb6619281a", sum := "1a0d77cc19a8fa12c8ce7707660e4c7aa2d064c9726eb04df9623f842680d5e2", func := "example.com/logsieve/logsieve/zzlaws_jsonwalk_b1.FnStringEndCutAtAnyPrefix", spec := "fnStringEndCutAtAnyPrefix", inPlace := ["internal/bytealg.IndexByte"], apart := false }
def FnStringEndCutAtAnyPrefixSaid : Prop := fnStringEndCutAtAnyPrefixRow.holds Try.pinned (OpenSpec.ofChange fnStringEndCutAtAnyPrefixSpec)

/-- ITS FALSE NEIGHBOUR: 'it returns false'. Refute it at one input. -/
def fnStringEndCutAtAnyPrefixWrong : ChangeSpec := { name := "fnStringEndCutAtAnyPrefix", fn := fun _ => fun
  | [d1, d2, d3] => { results := [.lit (.bool false)], args := [d1, d2, d3] }
  | _ => none }
def FnStringEndCutAtAnyPrefixWrongFalsely : Prop := fnStringEndCutAtAnyPrefixRow.holds Try.pinned (OpenSpec.ofChange fnStringEndCutAtAnyPrefixWrong)

end Rows
end Go.Proofs.Qxb6619281a
