/-
  No cell of these rows narrows 'for every input' (looked for: loops, veiled, ifaces, maps, wideKeys, modest, calm, conditions, laid).
  DERIVED. THE GIVEN ROWS OF THIS SEAT. 2 by the template 'for every input the law returns true; each argument reads behind the call as it read before'; 0 by the template 'total and deterministic' (their statements: Qxb6616858aTotals.lean).
  GIVEN WITH THE SEED: the statements are not yours to turn. If you find one false, say at which input.
  Laid BY PROGRAM, IN A SANDBOX (cutbox-rows.mjs): the forced cells as the released guide's own fill.sh prints them over the translation 495e6db10f6b2a5e… (all of the seat's roots in one cut). By AI agents, Wed Nov 11 2026. No macro, syntax, notation, axiom, sorry.
-/
import Derived.Test.Qxb6616858aChecked
import GoSem.Claim
import GoSem.ClaimJoined
import GoSem.ClaimMapViews
import Derived.JoinedTies
import Derived.KernelRfl
namespace Go.Proofs.Qxb6616858a
/- THE CELL 'sum', in the pinned program and in every row, IS THE sha256 OF THE DUMP (.gsa) THAT Qxb6616858aProg.lean LOADS. Nothing in Lean hashes anything: it is a label: what it is worth is what the hold of that sum in a sandbox is worth. -/
noncomputable def Try.pinned : Pinned := { name := "qxb6616858a", sum := "495e6db10f6b2a5ea837afe14c821beff9f0973ca5c0c8b24760c70049891285", checked := Try.checked }
namespace Rows
def none {H : Type} : Left H := { results := [], args := [] }

/-- 'zzlaws_root_b1.FnMeterOverOneWayOnly': WHATEVER THE INPUT: true; the input reads as it did. -/
def fnMeterOverOneWayOnlySpec : ChangeSpec := { name := "fnMeterOverOneWayOnly", fn := fun _ => fun
  | [d1, d2] => { results := [.lit (.bool true)], args := [d1, d2] }
  | _ => none }
def fnMeterOverOneWayOnlyRow : OpenClaim := { program := "qxb6616858a", sum := "495e6db10f6b2a5ea837afe14c821beff9f0973ca5c0c8b24760c70049891285", func := "example.com/marga/marga/zzlaws_root_b1.FnMeterOverOneWayOnly", spec := "fnMeterOverOneWayOnly", apart := false }
def FnMeterOverOneWayOnlySaid : Prop := fnMeterOverOneWayOnlyRow.holds Try.pinned (OpenSpec.ofChange fnMeterOverOneWayOnlySpec)

/-- ITS FALSE NEIGHBOUR: 'it returns false'. Refute it at one input. -/
def fnMeterOverOneWayOnlyWrong : ChangeSpec := { name := "fnMeterOverOneWayOnly", fn := fun _ => fun
  | [d1, d2] => { results := [.lit (.bool false)], args := [d1, d2] }
  | _ => none }
def FnMeterOverOneWayOnlyWrongFalsely : Prop := fnMeterOverOneWayOnlyRow.holds Try.pinned (OpenSpec.ofChange fnMeterOverOneWayOnlyWrong)

/-- 'zzlaws_root_b1.FnMeterOverThreshold': WHATEVER THE INPUT: true; the input reads as it did. -/
def fnMeterOverThresholdSpec : ChangeSpec := { name := "fnMeterOverThreshold", fn := fun _ => fun
  | [d1, d2, d3] => { results := [.lit (.bool true)], args := [d1, d2, d3] }
  | _ => none }
def fnMeterOverThresholdRow : OpenClaim := { program := "qxb6616858a", sum := "495e6db10f6b2a5ea837afe14c821beff9f0973ca5c0c8b24760c70049891285", func := "example.com/marga/marga/zzlaws_root_b1.FnMeterOverThreshold", spec := "fnMeterOverThreshold", apart := false }
def FnMeterOverThresholdSaid : Prop := fnMeterOverThresholdRow.holds Try.pinned (OpenSpec.ofChange fnMeterOverThresholdSpec)

/-- ITS FALSE NEIGHBOUR: 'it returns false'. Refute it at one input. -/
def fnMeterOverThresholdWrong : ChangeSpec := { name := "fnMeterOverThreshold", fn := fun _ => fun
  | [d1, d2, d3] => { results := [.lit (.bool false)], args := [d1, d2, d3] }
  | _ => none }
def FnMeterOverThresholdWrongFalsely : Prop := fnMeterOverThresholdRow.holds Try.pinned (OpenSpec.ofChange fnMeterOverThresholdWrong)

end Rows
end Go.Proofs.Qxb6616858a
